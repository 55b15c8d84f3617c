/-
  DERIVED. Rows of heads read; toHeads; NewHeld.
-/
import Derived.Test.Qxb6615634aNew
import Derived.Shelf.GgSortFunc.RowK
import Derived.Deep.Upon
namespace Go.Proofs.Qxb6615634a
open Go.RowKit Go.Sort

/-- A slice whose elements, rows of cells 'enc x', k of them each, lie in w, below B. -/
def RdB {α : Type} (enc : α → List Value) (k B : Nat) (w : World) (a : Option Addr) (xs : List α) : Prop :=
  ∀ i (hi : i < xs.length), ∃ b o, a = some ⟨b, o, none⟩ ∧ b < B ∧ ∀ j v, (enc xs[i])[j]? = some v → w.cell? ⟨b, o + i * k + j, none⟩ = some v

section
variable {α : Type} {enc : α → List Value} {k : Nat}
theorem RdB.below {B : Nat} {w w' : World} {a : Option Addr} {xs : List α} (h : RdB enc k B w a xs) (hb : Below B w w') : RdB enc k B w' a xs := fun i hi => by
  obtain ⟨b, o, h1, h2, h3⟩ := h i hi
  exact ⟨b, o, h1, h2, fun j v hv => (hb.cell (p := ⟨b, o + i * k + j, none⟩) h2).trans (h3 j v hv)⟩
theorem RdB.mono {B B' : Nat} {w : World} {a : Option Addr} {xs : List α} (h : RdB enc k B w a xs) (hB : B ≤ B') : RdB enc k B' w a xs := fun i hi => by
  obtain ⟨b, o, h1, h2, h3⟩ := h i hi
  exact ⟨b, o, h1, by omega, h3⟩
theorem RdB.ld {B : Nat} {w : World} {b o : Nat} {xs : List α} (h : RdB enc k B w (some ⟨b, o, none⟩) xs) (hk : ∀ x, (enc x).length = k) (i : Nat) (hi : i < xs.length) (kk : Nat) (hkk : kk = k) :
    Sem.run Try.prog (loadCellsFrom ⟨b, o + i * kk, none⟩ 0 kk #[]) w = .ok (enc xs[i]).toArray w := by
  subst hkk
  obtain ⟨b', o', h1, _, h3⟩ := h i hi
  simp only [Option.some.injEq, Addr.mk.injEq, and_true] at h1
  obtain ⟨rfl, rfl⟩ := h1
  have := run_loadCells_list (P := Try.prog) w ⟨b, o + i * kk, none⟩ (enc xs[i]) (fun j v hj => by
    have hadd : (⟨b, o + i * kk, none⟩ : Addr).add j = ⟨b, o + i * kk + j, none⟩ := by unfold Addr.add; split <;> simp_all
    rw [hadd]
    exact h3 j v hj)
  rw [hk] at this
  simpa [loadCells] using this
end

theorem heap_setCells (g : Nat) (t : TypeId) (fr : Nat × Nat) : ∀ (vs : List Value) (o : Nat) (w : World) (cur : Array Value), w.heap[g]? = some (.cells cur t fr) → (w.setCells g o vs).heap[g]? = some (.cells (setMany cur o vs) t fr)
  | [], _, _, _, h => h
  | v :: r, o, w, cur, h => by
    rw [World.setCells, setMany]
    refine heap_setCells g t fr r (o + 1) _ _ ?_
    simp [World.setCell, Array.getElem?_modify, h]
theorem grown_setCells (g : Nat) (vs : List Value) (o : Nat) (w : World) : w.grownBy (w.setCells g o vs) (some g) := by
  have hs : ∀ (vs : List Value) (o : Nat) (w : World), (w.setCells g o vs).os = w.os ∧ (w.setCells g o vs).tape = w.tape ∧ (w.setCells g o vs).output = w.output ∧ (w.setCells g o vs).heap.size = w.heap.size := by
    intro vs
    induction vs with
    | nil => intro o w; exact ⟨rfl, rfl, rfl, rfl⟩
    | cons v r ih =>
      intro o w
      have h := ih (o + 1) (w.setCell ⟨g, o, none⟩ v)
      refine ⟨h.1, h.2.1, h.2.2.1, ?_⟩
      rw [World.setCells, h.2.2.2]
      simp [World.setCell]
  have h := hs vs o w
  exact ⟨h.1, h.2.1, h.2.2.1, by rw [h.2.2.2]; exact Nat.le_refl _, fun k hk hne => World.heap_setCells_other w g o vs hk (fun e => hne (by rw [e]))⟩
theorem setMany_get? (F : Array Value) (o : Nat) (vs : List Value) (k : Nat) (h : o + vs.length ≤ F.size) : (setMany F o vs)[k]? = if o ≤ k ∧ k < o + vs.length then vs[k - o]? else F[k]? := by
  by_cases hk : k < F.size
  · have h1 := get_setMany vs o F k hk
    have hk' : k < (setMany F o vs).size := by rw [size_setMany]; exact hk
    rw [getElem!_pos (setMany F o vs) k hk'] at h1
    rw [Array.getElem?_eq_getElem hk', h1]
    by_cases hc : o ≤ k ∧ k < o + vs.length
    · rw [if_pos hc, if_pos hc]
      have : k - o < vs.length := by omega
      simp [this]
    · rw [if_neg hc, if_neg hc]
      simp [hk]
  · rw [Array.getElem?_eq_none (by rw [size_setMany]; omega), if_neg (by omega), Array.getElem?_eq_none (by omega)]

/-- The rows copied so far. -/
structure Copied (w : World) (g n : Nat) (hs : List Hd) (i : Nat) (wr : World) (F : Array Value) : Prop where
  blk : wr.heap[g]? = some (.cells F 55 (0, 0))
  size : F.size = n * 66
  done : ∀ j (_ : j < hs.length), j < i → ∀ k v, (encH hs[j])[k]? = some v → F[j * 66 + k]? = some v
  below : Below g w wr

set_option maxRecDepth 100000 in
set_option maxHeartbeats 1000000 in
/-- toHeads. -/
theorem toHeads_any (a : Option Addr) (c : Nat) (hs : List Hd) (w : World) (h : RdB encH 66 w.heap.size w a hs) (hL : hs.length ≤ 1000000) :
    Calls Try.prog 15 #[.slice a hs.length c] w fun e w' => e = .returned (.slice (some ⟨w.heap.size, 0, none⟩) hs.length hs.length) ∧ RdB encH 66 w'.heap.size w' (some ⟨w.heap.size, 0, none⟩) hs ∧ Below w.heap.size w w' := by
  obtain ⟨k32, k66, ⟨z22, z27, z38, z55, n32, n66⟩, HK⟩ := sz_ex
  clear z22 z27 n32
  obtain ⟨i0, hinf, hz0, hz1, hz2⟩ := info_parts Try.info55
  have H : Hid (RdB encH 66 w.heap.size w a hs) := h
  have hln : ∀ x, (encH x).length = k66 := fun x => by rw [encH_length, HK.out.2]
  clear h
  go_enter Try.func15, Try.ntmps15
  go_wp2_with (at_make; refine wpList_make_full _ rfl (.tmp 6) (.tmp 6) 43 rfl w.heap.size 55 i0 _ 66 Try.underlying43 hinf hz0 hz1 .i64 .i64 _ _ hs.length rfl rfl rfl rfl (by rw [hz2]; omega) (by unfold maxLen; omega) (Nat.le_refl _) ?_)
  intro w1 ho1 hg1
  have H0 : Hid (∃ F, Copied w w.heap.size hs.length hs 0 w1 F) := by
    rcases ho1.2 with ⟨e, _⟩ | ⟨g, cap, cur, heq, _, hb, _, _, hcur, _⟩
    · cases e
    · cases heq
      exact ⟨cur, hb, hcur, fun j _ hj => absurd hj (by omega), ⟨hg1.os, hg1.tape, hg1.output, hg1.size, fun k hk => hg1.block k hk (by simp)⟩⟩
  clear ho1 hg1 hz0
  go_wp2
  go_loopg [4] hs.length (fun gk iv wr => ∃ i : Nat, iv = .int .i64 i ∧ gk = hs.length - i ∧ i ≤ hs.length ∧ Hid (∃ F, Copied w w.heap.size hs.length hs i wr F))
  case atStart => exact ⟨0, rfl, rfl, by omega, H0⟩
  case round =>
    clear H0
    obtain ⟨i, rfl, hgk, hil, HR⟩ := hrel
    rcases Nat.eq_or_lt_of_le hil with hE | hE
    · subst hE
      go_wp2
      go_ret
      obtain ⟨F, hF⟩ := HR.out
      have hsz : w.heap.size < wr.heap.size := (Array.getElem?_eq_some_iff.1 hF.blk).1
      refine ⟨rfl, fun i hi => ⟨w.heap.size, 0, rfl, hsz, fun j v hv => ?_⟩, hF.below⟩
      have := hF.done i hi hi j v hv
      rw [Nat.zero_add]
      simpa [World.cell?, hF.blk] using this
    · obtain ⟨b, o, heq, hlt, hcells⟩ := H.out i hE
      cases heq
      obtain ⟨F, hF⟩ := HR.out
      have ld := (H.out.below hF.below).ld encH_length i hE k66 HK.out.2
      obtain ⟨x, hx⟩ : ∃ x, x = hs[i] := ⟨_, rfl⟩
      rw [← hx] at ld
      have ib0 : (0 : Int) ≤ (i : Int) := by omega
      have ib : (i : Int) < (hs.length : Int) := by omega
      have HN : Hid (∀ W, Below wr.heap.size wr W → ∃ W', Sem.run Try.prog (storeCells ⟨w.heap.size, i * k66, none⟩ (encH x) 0) W = .ok () W' ∧ Hid (∃ F', Copied w w.heap.size hs.length hs (i + 1) W' F')) := fun W hW => by
        have hgl : w.heap.size < wr.heap.size := (Array.getElem?_eq_some_iff.1 hF.blk).1
        have hblk : W.heap[w.heap.size]? = some (.cells F 55 (0, 0)) := (hW.block _ hgl).trans hF.blk
        have hbel : Below w.heap.size w W := hF.below.trans (hW.mono (by omega))
        refine ⟨W.setCells w.heap.size (i * 66) (encH x), ?_, setMany F (i * 66) (encH x), heap_setCells _ 55 (0, 0) _ _ W F hblk, by rw [size_setMany]; exact hF.size, fun j hj hji k v hv => ?_, ?_⟩
        · have := run_storeCells_cells (P := Try.prog) w.heap.size (i * 66) (encH x) 0 W (fun j hj => ?_) (fun j hj => ?_) (encH_one _)
          · rw [HK.out.2]; simpa using this
          · have hk : i * 66 + 0 + j < F.size := by rw [hF.size]; rw [encH_length] at hj; omega
            simp only [World.cell?, hblk, Array.getElem?_eq_getElem hk]
            rfl
          · simp [World.frozen?, hblk]
        · have hk : k < 66 := by have := (List.getElem?_eq_some_iff.1 hv).1; rwa [encH_length] at this
          rw [setMany_get? _ _ _ _ (by rw [encH_length, hF.size]; omega), encH_length]
          by_cases e : j = i
          · subst e
            rw [if_pos (by omega), show j * 66 + k - j * 66 = k by omega, hx]; exact hv
          · rw [if_neg (by omega)]; exact hF.done j hj (by omega) k v hv
        · have h3 := grown_setCells w.heap.size (encH x) (i * 66) W
          exact ⟨h3.os.trans hbel.os, h3.tape.trans hbel.tape, h3.output.trans hbel.output, Nat.le_trans hbel.size h3.size, fun k hk => (h3.block k (by have := hbel.size; omega) (fun e => by have := Option.some.inj e; omega)).trans (hbel.block k hk)⟩
      clear hx hF HR hcells hlt
      go_wp2_with fail
      refine (toHead_any x wr).mono ?_
      rintro e w5 ⟨rfl, hb5⟩
      obtain ⟨W', hst, HC⟩ := HN.out w5 hb5
      clear HN hb5 ld
      go_wp2
      go_roundg (hs.length - (i + 1))
      case measure => omega
      case rel => exact ⟨i + 1, by go_num, rfl, by omega, HC⟩
end Go.Proofs.Qxb6615634a
