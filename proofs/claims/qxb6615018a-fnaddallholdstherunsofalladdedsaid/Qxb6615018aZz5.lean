/-
  DERIVED. zzCompareSerial; a row of serial numbers that is written in place; zzSortedSerials; zzSameSerials.
-/
import Derived.Test.Qxb6615018aPl4
import Derived.Test.Qxb6615018aZz3
import Derived.Deep.DeepCutAuto
namespace Go.Proofs.Qxb6615018a
open Go.RowKit Go.Sort

set_option maxRecDepth 100000 in
/-- zzCompareSerial. -/
theorem cmpSer_any (s t : Sn) (w : World) : Calls Try.prog 31 #[.agg (encS s).toArray, .agg (encS t).toArray] w fun e w' => e = .returned (.int .i64 (cmpS s t)) ∧ Below w.heap.size w w' := by
  obtain ⟨k16, k17, k18, ⟨z22, z24, z27, z30, z53, z40, z62, n16, n17, n18⟩, HK⟩ := sz_ex
  clear z24 z27 z30 z40 z62 n17 n18
  have hcm : cmpS s t = if Lib.compareBytes s.1.toList t.1.toList = 0 then cmpN s.2 t.2 else Lib.compareBytes s.1.toList t.1.toList := rfl
  obtain ⟨sg, sn⟩ := s
  obtain ⟨tg, tn⟩ := t
  obtain ⟨W0, hW0⟩ : ∃ W0, W0 = (w.alloc (.cells (encS (sg, sn)).toArray 53)).alloc (.cells (encS (tg, tn)).toArray 53) := ⟨_, rfl⟩
  have HB0 : Hid (Below w.heap.size w W0) := by rw [hW0]; exact ((Below.refl _ _).alloc (Nat.le_refl _) _).alloc (by simp) _
  have e1 : W0.heap[w.heap.size]? = some (.cells (encS (sg, sn)).toArray 53 (0, 0)) := by rw [hW0, ((Below.refl _ _).alloc (Nat.le_refl _) _).block _ (by simp)]; exact heap_alloc_last _ _
  have e2 : W0.heap[w.heap.size + 1]? = some (.cells (encS (tg, tn)).toArray 53 (0, 0)) := by rw [hW0]; exact heap_alloc_at _ _ _ (by simp)
  have hs : w.heap.size + 1 < W0.heap.size := by rw [hW0]; simp
  have HC : Hid (∀ W, Below W0.heap.size W0 W → W.cell? ⟨w.heap.size, 16, none⟩ = some (.int .u64 (sn.toNat : Int)) ∧ W.cell? ⟨w.heap.size + 1, 16, none⟩ = some (.int .u64 (tn.toNat : Int))) := fun W hW => by
    have f1 := (hW.block w.heap.size (by omega)).trans e1
    have f2 := (hW.block (w.heap.size + 1) (by omega)).trans e2
    exact ⟨by simpa [World.cell?, f1] using encS_16 (sg, sn), by simpa [World.cell?, f2] using encS_16 (tg, tn)⟩
  have l1 : Sem.run Try.prog (loadCellsFrom ⟨w.heap.size, 0, none⟩ 0 k16 #[]) W0 = .ok (encG sg).toArray W0 := ld_block _ _ _ _ 53 (0, 0) _ _ e1 (by rw [encG_length, HK.out.1]) (encS_sub (sg, sn))
  have l2 : Sem.run Try.prog (loadCellsFrom ⟨w.heap.size + 1, 0, none⟩ 0 k16 #[]) W0 = .ok (encG tg).toArray W0 := ld_block _ _ _ _ 53 (0, 0) _ _ e2 (by rw [encG_length, HK.out.1]) (encS_sub (tg, tn))
  clear e1 e2 hs
  rw [hW0] at l1 l2
  go_enter Try.func31, Try.ntmps31
  go_wp2_with fail
  rw [← hW0]
  clear hW0 l1 l2
  refine (cmpG_any sg tg W0).mono ?_
  rintro e w5 ⟨rfl, hb5⟩
  obtain ⟨c1, c2⟩ := HC.out w5 hb5
  have HB : Hid (Below w.heap.size w w5) := HB0.out.trans (hb5.mono HB0.out.size)
  generalize Lib.compareBytes (Vector.toList sg) (Vector.toList tg) = cv at hcm
  have HCM : Hid (cmpS (sg, sn) (tg, tn) = if cv = 0 then cmpN sn tn else cv) := hcm
  clear hcm HC HB0 hb5
  by_cases h0 : cv = 0
  · subst h0
    have hc2 : cmpS (sg, sn) (tg, tn) = if sn < tn then -1 else if tn < sn then 1 else 0 := by rw [HCM.out, if_pos rfl]; rfl
    by_cases h1 : sn < tn
    · have h1' : (sn.toNat : Int) < (tn.toNat : Int) := by have := UInt64.lt_iff_toNat_lt.1 h1; omega
      rw [if_pos h1] at hc2
      have HC2 : Hid (cmpS (sg, sn) (tg, tn) = -1) := hc2
      clear hc2
      go_wp2
      go_ret
      exact ⟨by rw [HC2.out]; rfl, HB.out⟩
    · have h1' : ¬ (sn.toNat : Int) < (tn.toNat : Int) := fun hh => h1 (UInt64.lt_iff_toNat_lt.2 (by omega))
      rw [if_neg h1] at hc2
      by_cases h2 : tn < sn
      · have h2' : (tn.toNat : Int) < (sn.toNat : Int) := by have := UInt64.lt_iff_toNat_lt.1 h2; omega
        rw [if_pos h2] at hc2
        have HC2 : Hid (cmpS (sg, sn) (tg, tn) = 1) := hc2
        clear hc2
        go_wp2
        go_ret
        exact ⟨by rw [HC2.out]; rfl, HB.out⟩
      · have h2' : ¬ (tn.toNat : Int) < (sn.toNat : Int) := fun hh => h2 (UInt64.lt_iff_toNat_lt.2 (by omega))
        rw [if_neg h2] at hc2
        have HC2 : Hid (cmpS (sg, sn) (tg, tn) = 0) := hc2
        clear hc2
        go_wp2
        go_ret
        exact ⟨by rw [HC2.out]; rfl, HB.out⟩
  · have h0' : (cv == 0) = false := by simpa using h0
    have HC2 : Hid (cmpS (sg, sn) (tg, tn) = cv) := by show _ = _; rw [HCM.out, if_neg h0]
    go_wp2
    go_ret
    exact ⟨by rw [HC2.out]; rfl, HB.out⟩

/-- A row of serial numbers. -/
structure RowS (w : World) (g : Nat) (R : List Sn) : Prop where
  ex : ∃ F, w.heap[g]? = some (.cells F 53 (0, 0)) ∧ F.size = R.length * 17 ∧ ∀ j (_ : j < R.length) k v, (encS R[j])[k]? = some v → F[j * 17 + k]? = some v

theorem RowS.below {w w' : World} {g : Nat} {R : List Sn} (h : RowS w g R) (hb : w'.heap[g]? = w.heap[g]?) : RowS w' g R := by
  obtain ⟨F, h1, h2⟩ := h.ex
  exact ⟨F, hb.trans h1, h2⟩
theorem RowS.lt {w : World} {g : Nat} {R : List Sn} (h : RowS w g R) : g < w.heap.size := by
  obtain ⟨F, h1, _⟩ := h.ex
  exact (Array.getElem?_eq_some_iff.1 h1).1
theorem RowS.rd {w : World} {g : Nat} {R : List Sn} (h : RowS w g R) : RdB encS 17 w.heap.size w (some ⟨g, 0, none⟩) R := fun i hi => by
  obtain ⟨F, h1, h2, h3⟩ := h.ex
  refine ⟨g, 0, rfl, h.lt, fun j v hv => ?_⟩
  have := h3 i hi j v hv
  rw [Nat.zero_add]
  simpa [World.cell?, h1] using this
theorem RowS.ld {w : World} {g : Nat} {R : List Sn} (h : RowS w g R) (i : Nat) (hi : i < R.length) (kk : Nat) (hkk : kk = 17) : Sem.run Try.prog (loadCellsFrom ⟨g, i * kk, none⟩ 0 kk #[]) w = .ok (encS R[i]).toArray w := by
  have := h.rd.ld encS_length i hi kk hkk
  rwa [Nat.zero_add] at this
/-- One place written. -/
theorem RowS.st {w : World} {g : Nat} {R : List Sn} (h : RowS w g R) (i : Nat) (hi : i < R.length) (x : Sn) (kk : Nat) (hkk : kk = 17) :
    ∃ w', Sem.run Try.prog (storeCells ⟨g, i * kk, none⟩ (encS x) 0) w = .ok () w' ∧ RowS w' g (R.set i x) ∧ w.grownBy w' (some g) := by
  subst hkk
  obtain ⟨F, h1, h2, h3⟩ := h.ex
  refine ⟨w.setCells g (i * 17) (encS x), ?_, ⟨setMany F (i * 17) (encS x), heap_setCells _ 53 (0, 0) _ _ w F h1, by rw [size_setMany, List.length_set]; exact h2, fun j hj k v hv => ?_⟩, grown_setCells _ _ _ _⟩
  · have := run_storeCells_cells (P := Try.prog) g (i * 17) (encS x) 0 w (fun j hj => ?_) (fun j hj => ?_) (encS_one _)
    · simpa using this
    · have hk : i * 17 + 0 + j < F.size := by rw [h2]; rw [encS_length] at hj; omega
      simp only [World.cell?, h1, Array.getElem?_eq_getElem hk]
      rfl
    · simp [World.frozen?, h1]
  · rw [List.length_set] at hj
    have hk : k < 17 := by have := (List.getElem?_eq_some_iff.1 hv).1; rwa [encS_length] at this
    rw [setMany_get? _ _ _ _ (by rw [encS_length, h2]; omega), encS_length]
    rw [List.getElem_set] at hv
    by_cases e : i = j
    · subst e
      rw [if_pos rfl] at hv
      rw [if_pos (by omega), show i * 17 + k - i * 17 = k by omega]; exact hv
    · rw [if_neg e] at hv
      rw [if_neg (by omega)]; exact h3 j hj k v hv
end Go.Proofs.Qxb6615018a
