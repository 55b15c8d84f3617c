/-
  DERIVED. NewHeld.
-/
import Derived.Test.Qxb6615634aTo
import Derived.Test.Qxb6615634aPl
namespace Go.Proofs.Qxb6615634a
open Go.RowKit Go.Sort

/-- Nothing held yet. -/
theorem held_empty (w : World) : HeldT ((w.alloc (.map #[] 0)).alloc (.cells #[.nilIface, .map (some w.heap.size)] 66)) (w.heap.size + 1) [] w.heap.size (w.heap.size + 2) := by
  have e0 : ((w.alloc (.map #[] 0)).alloc (.cells #[.nilIface, .map (some w.heap.size)] 66)).heap[w.heap.size]? = some (.map #[] 0) := by
    rw [((Below.refl _ _).alloc (Nat.le_refl _) _).block _ (by simp)]
    exact heap_alloc_last _ _
  have e1 : ((w.alloc (.map #[] 0)).alloc (.cells #[.nilIface, .map (some w.heap.size)] 66)).heap[w.heap.size + 1]? = some (.cells #[.nilIface, .map (some w.heap.size)] 66 (0, 0)) := by
    have := heap_alloc_last (w.alloc (.map #[] 0)) (.cells #[.nilIface, .map (some w.heap.size)] 66)
    simpa using this
  exact ⟨w.heap.size, [], ⟨⟨_, e1⟩, ⟨#[], 0, e0, rfl⟩, fun g hg => absurd hg (by simp), by simp, List.Pairwise.nil, fun g hg => absurd hg (by simp)⟩, rfl, ⟨by omega, by omega⟩, ⟨by omega, by omega⟩, fun g hg => absurd hg (by simp)⟩

theorem only_below {lo hi : Nat} {w w1 w2 : World} (h : Below lo w w1) (ho : Only (fun b => lo ≤ b ∧ b < hi) w1 w2) (hl : lo ≤ w1.heap.size) : Below lo w w2 :=
  ⟨ho.os.trans h.os, ho.tape.trans h.tape, ho.output.trans h.output, Nat.le_trans h.size ho.size, fun b hb => (ho.block b (by omega) (fun hh => by omega)).trans (h.block b hb)⟩

set_option maxRecDepth 100000 in
set_option maxHeartbeats 1000000 in
/-- NewHeld. -/
theorem newHeld_any (a : Option Addr) (c : Nat) (hs : List Hd) (w : World) (h : RdB encH 66 w.heap.size w a hs) (hL : hs.length ≤ 100000) :
    Calls Try.prog 14 #[.nilIface, .slice a hs.length c] w fun e w' => e = .returned (.pointer (some ⟨w.heap.size + 1, 0, none⟩)) ∧ ∃ T, AddsR hs.reverse T ∧ HeldT w' (w.heap.size + 1) T w.heap.size w'.heap.size ∧ Below w.heap.size w w' := by
  obtain ⟨k32, k66, ⟨z22, z27, z38, z55, n32, n66⟩, HK⟩ := sz_ex
  clear z22 z27 n32
  obtain ⟨Z, hZ, v55⟩ := zero55
  have H : Hid (RdB encH 66 w.heap.size w a hs) := h
  have hln : ∀ x, (encH x).length = k66 := fun x => by rw [encH_length, HK.out.2]
  have mk := make_map
  obtain ⟨W0, hW0⟩ : ∃ W0, W0 = (w.alloc (.map #[] 0)).alloc (.cells #[.nilIface, .map (some w.heap.size)] 66) := ⟨_, rfl⟩
  have H0 : Hid (HeldT W0 (w.heap.size + 1) [] w.heap.size W0.heap.size ∧ Below w.heap.size w W0) := by
    have hs0 : W0.heap.size = w.heap.size + 2 := by rw [hW0]; simp
    refine ⟨?_, ?_⟩
    · rw [hs0, hW0]; exact held_empty w
    · rw [hW0]; exact ((Below.refl _ _).alloc (Nat.le_refl _) _).alloc (by simp) _
  clear h
  go_enter Try.func14, Try.ntmps14
  go_wp2
  rw [← hW0]
  clear hW0 mk
  go_loopg [14] hs.length (fun gk iv wr => ∃ i : Nat, iv = .int .i64 i ∧ gk = hs.length - i ∧ i ≤ hs.length ∧ Hid (∃ T, AddsR (hs.take i).reverse T ∧ HeldT wr (w.heap.size + 1) T w.heap.size wr.heap.size ∧ Below w.heap.size w wr))
  case atStart => exact ⟨0, rfl, rfl, by omega, [], rfl, H0.out⟩
  case round =>
    clear H0
    obtain ⟨i, rfl, hgk, hil, HR⟩ := hrel
    rcases Nat.eq_or_lt_of_le hil with hE | hE
    · subst hE
      have HF : Hid (∃ T, AddsR hs.reverse T ∧ HeldT wr (w.heap.size + 1) T w.heap.size wr.heap.size ∧ Below w.heap.size w wr) := by
        have := HR.out
        rw [List.take_length] at this
        exact this
      go_wp2
      go_ret
      exact ⟨rfl, HF.out⟩
    · obtain ⟨b, o, heq, hlt, hcells⟩ := H.out i hE
      cases heq
      obtain ⟨T, hA, hT, hB⟩ := HR.out
      have ld := (H.out.below hB).ld encH_length i hE k66 HK.out.2
      obtain ⟨x, hx⟩ : ∃ x, x = hs[i] := ⟨_, rfl⟩
      rw [← hx] at ld
      have ib0 : (0 : Int) ≤ (i : Int) := by omega
      have ib : (i : Int) < (hs.length : Int) := by omega
      have st : Sem.run Try.prog (storeCells ⟨wr.heap.size, 0, none⟩ (encH x) 0) (wr.alloc (.cells Z 55)) = .ok () (wr.alloc (.cells (encH x).toArray 55)) := st_new wr 55 Z _ (by rw [encH_length]; exact hZ.out) (encH_one _)
      obtain ⟨W1, hW1⟩ : ∃ W1, W1 = wr.alloc (.cells (encH x).toArray 55) := ⟨_, rfl⟩
      have hb1 : Below wr.heap.size wr W1 := by rw [hW1]; exact (Below.refl _ _).alloc (Nat.le_refl _) _
      have ld1 : Sem.run Try.prog (loadCellsFrom ⟨wr.heap.size, 0, none⟩ 0 k66 #[]) W1 = .ok (encH x).toArray W1 := ld_block W1 wr.heap.size 0 _ 55 (0, 0) (encH x) k66 (by rw [hW1]; exact heap_alloc_last _ _) (hln x) (by simp)
      have hI := inv_of _ _ hA
      have CA : Hid (Calls Try.prog 22 #[.pointer (some ⟨w.heap.size + 1, 0, none⟩), .agg (encH x).toArray] W1 fun e w' => e = .returned (.tuple #[]) ∧ ∃ T, AddsR (hs.take (i + 1)).reverse T ∧ HeldT w' (w.heap.size + 1) T w.heap.size w'.heap.size ∧ Below w.heap.size w w') := by
        refine (add_any x (w.heap.size + 1) T w.heap.size wr.heap.size W1 (hT.kept (fun b _ hb' => hb1.block b hb')) hb1.size (fun t ht => ?_)).mono ?_
        · have := hI.len t ht
          simp at this
          omega
        · rintro e w' ⟨rfl, T', r1, r2, r3⟩
          refine ⟨rfl, T', ?_, r2, only_below (hB.trans (hb1.mono hB.size)) r3 (Nat.le_trans hB.size hb1.size)⟩
          rw [List.take_succ_eq_append_getElem hE, List.reverse_append, ← hx]
          exact ⟨T, hA, r1⟩
      rw [hW1] at ld1
      clear hx hA hT hB HR hI hb1 hcells hlt
      go_wp2_with fail
      rw [← hW1]
      clear hW1 ld1 st ld
      refine CA.out.mono ?_
      rintro e w5 ⟨rfl, hres⟩
      have HN : Hid (∃ T, AddsR (hs.take (i + 1)).reverse T ∧ HeldT w5 (w.heap.size + 1) T w.heap.size w5.heap.size ∧ Below w.heap.size w w5) := hres
      clear hres CA
      go_wp2
      go_roundg (hs.length - (i + 1))
      case measure => omega
      case rel => exact ⟨i + 1, by go_num, rfl, by omega, HN⟩
end Go.Proofs.Qxb6615634a
