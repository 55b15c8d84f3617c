/-
  DERIVED. Plain laws of the runs: a sorted list is settled by its members; the insertion's steps; runs by appending ranges.
-/
import Derived.Test.Qxb6615018aStrip
import Derived.Test.Qxb6615018aPl5
namespace Go.Proofs.Qxb6615018a
open Go.RowKit Go.Sort

theorem sorted_uniq : ∀ (l m : List Sn), l.Perm m → Sorted l → Sorted m → l = m
  | [], m, h, _, _ => (List.nil_perm.1 h).symm
  | a :: l, [], h, _, _ => absurd (List.perm_nil.1 h) (by simp)
  | a :: l, b :: m, h, hl, hm => by
    have h1 := List.pairwise_cons.1 hl
    have h2 := List.pairwise_cons.1 hm
    have e1 : key a ≤ key b := by
      have hb : b ∈ a :: l := h.mem_iff.2 (by simp)
      rcases List.mem_cons.1 hb with rfl | hb
      · exact Nat.le_refl _
      · exact h1.1 b hb
    have e2 : key b ≤ key a := by
      have ha : a ∈ b :: m := h.mem_iff.1 (by simp)
      rcases List.mem_cons.1 ha with rfl | ha
      · exact Nat.le_refl _
      · exact h2.1 a ha
    have e : a = b := key_inj (by omega)
    subst e
    rw [sorted_uniq l m ((List.perm_cons a).1 h) h1.2 h2.2]

/-- What the insertion holds: everything but place j is in order up to i, and what lies behind j is greater than x. -/
structure Hole (ss R : List Sn) (x : Sn) (i j : Nat) : Prop where
  len : R.length = ss.length
  perm : (R.set j x).Perm ss
  ord : ∀ p q (hp : p < R.length) (hq : q < R.length), p < q → q ≤ i → p ≠ j → q ≠ j → key R[p] ≤ key R[q]
  gt : ∀ q (hq : q < R.length), j < q → q ≤ i → key x < key R[q]

/-- In order up to i. -/
structure Upto (ss R : List Sn) (i : Nat) : Prop where
  len : R.length = ss.length
  perm : R.Perm ss
  ord : ∀ p q (hp : p < R.length) (hq : q < R.length), p < q → q < i → key R[p] ≤ key R[q]

theorem Upto.one (ss : List Sn) : Upto ss ss 1 := ⟨rfl, List.Perm.refl _, fun p q _ _ h1 h2 => by omega⟩
theorem Upto.mono {ss R : List Sn} {i i' : Nat} (h : Upto ss R i) (hi : i' ≤ i) : Upto ss R i' := ⟨h.len, h.perm, fun p q hp hq h1 h2 => h.ord p q hp hq h1 (by omega)⟩
theorem Upto.done {ss R : List Sn} {i : Nat} (h : Upto ss R i) (hi : R.length ≤ i) : R = sortS ss := by
  have hp : (sortS ss).Perm ss := List.mergeSort_perm _ _
  refine sorted_uniq _ _ (h.perm.trans hp.symm) ?_ (sortS_sorted ss)
  exact List.pairwise_iff_getElem.2 fun p q hp hq hpq => h.ord p q hp hq hpq (by omega)
theorem Upto.hole {ss R : List Sn} {i : Nat} (h : Upto ss R i) (hi : i < R.length) : Hole ss R R[i] i i :=
  ⟨h.len, by rw [List.set_getElem_self]; exact h.perm, fun p q hp hq h1 h2 h3 h4 => h.ord p q hp hq h1 (by omega), fun q _ h1 h2 => by omega⟩

theorem Hole.step {ss R : List Sn} {x : Sn} {i j : Nat} (h : Hole ss R x i (j + 1)) (hi : i < R.length) (hj : j + 1 ≤ i) (hx : key x < key (R[j]'(by omega))) : Hole ss (R.set (j + 1) (R[j]'(by omega))) x i j := by
  have hj1 : j + 1 < R.length := by omega
  have hj0 : j < R.length := by omega
  refine ⟨by rw [List.length_set]; exact h.len, ?_, fun p q hp hq h1 h2 h3 h4 => ?_, fun q hq h1 h2 => ?_⟩
  · have e := @List.set_set_perm Sn (R.set (j + 1) x) (j + 1) j (by simpa using hj1) (by simpa using hj0)
    rw [List.getElem_set_self, List.getElem_set_ne (by omega), List.set_set] at e
    exact e.trans h.perm
  · rw [List.length_set] at hp hq
    rw [List.getElem_set, List.getElem_set]
    by_cases e1 : j + 1 = p
    · subst e1
      rw [if_pos rfl, if_neg (by omega)]
      exact h.ord j q hj0 hq (by omega) h2 (by omega) (by omega)
    · rw [if_neg e1]
      by_cases e2 : j + 1 = q
      · subst e2
        rw [if_pos rfl]
        exact h.ord p j hp hj0 (by omega) (by omega) (by omega) (by omega)
      · rw [if_neg e2]
        exact h.ord p q hp hq h1 h2 (by omega) (by omega)
  · rw [List.length_set] at hq
    rw [List.getElem_set]
    by_cases e2 : j + 1 = q
    · rw [if_pos e2]; exact hx
    · rw [if_neg e2]; exact h.gt q hq (by omega) h2

theorem Hole.fill {ss R : List Sn} {x : Sn} {i j : Nat} (h : Hole ss R x i j) (hj : j ≤ i) (hx : j = 0 ∨ ∃ h : j - 1 < R.length, key R[j - 1] ≤ key x) : Upto ss (R.set j x) (i + 1) := by
  refine ⟨by rw [List.length_set]; exact h.len, h.perm, fun p q hp hq h1 h2 => ?_⟩
  rw [List.length_set] at hp hq
  rw [List.getElem_set, List.getElem_set]
  by_cases e1 : j = p
  · subst e1
    rw [if_pos rfl, if_neg (by omega)]
    exact Nat.le_of_lt (h.gt q hq h1 (by omega))
  · rw [if_neg e1]
    by_cases e2 : j = q
    · subst e2
      rw [if_pos rfl]
      rcases hx with hx | ⟨h3, hx⟩
      · omega
      · by_cases e3 : p = j - 1
        · subst e3; exact hx
        · exact Nat.le_trans (h.ord p (j - 1) hp h3 (by omega) (by omega) (by omega) (by omega)) hx
    · rw [if_neg e2]
      exact h.ord p q hp hq h1 (by omega) (by omega) (by omega)

/-! ### Runs -/

/-- The ranges of the serial numbers but the null one, each taken up in turn. -/
def runsL (ss : List Sn) : List Rg := ((ss.filter (fun s => !(s == nullS))).map rgOf).foldl apR []

theorem runsL_nil : runsL [] = [] := rfl
theorem runsL_null {ss : List Sn} {s : Sn} (h : s = nullS) : runsL (ss ++ [s]) = runsL ss := by
  subst h
  simp [runsL]
theorem runsL_snoc {ss : List Sn} {s : Sn} (h : s ≠ nullS) : runsL (ss ++ [s]) = apR (runsL ss) (rgOf s) := by
  have hb : (s == nullS) = false := by simpa using h
  simp [runsL, hb]

theorem runsL_ok (ss : List Sn) (hs : Sorted ss) : Ap (runsL ss) ∧ (∀ x, mem x (runsL ss) ↔ isKey x ss ∧ x ≠ 0) ∧ (runsL ss).length ≤ ss.length := by
  have hf : Sorted (ss.filter (fun s => !(s == nullS))) := List.Pairwise.filter _ hs
  have hp : ((ss.filter (fun s => !(s == nullS))).map rgOf).Pairwise (fun a b => lo a ≤ lo b) := List.pairwise_map.2 hf
  obtain ⟨h1, h2, h3⟩ := fold_ok ((ss.filter (fun s => !(s == nullS))).map rgOf) [] Ap.nil (fun r hr => by
    obtain ⟨s, _, rfl⟩ := List.mem_map.1 hr
    exact Nat.le_refl _) hp (fun l hl => absurd hl (by simp))
  refine ⟨h1, fun x => ?_, ?_⟩
  · rw [show mem x (runsL ss) ↔ _ from h2 x]
    constructor
    · rintro (h | ⟨r, hr, h4, h5⟩)
      · exact absurd h mem_nil
      · obtain ⟨s, hs', rfl⟩ := List.mem_map.1 hr
        obtain ⟨hm, hn⟩ := List.mem_filter.1 hs'
        rw [lo_rgOf] at h4
        rw [hi_rgOf] at h5
        have hk : key s = x := by omega
        refine ⟨⟨s, hm, hk⟩, fun h0 => ?_⟩
        have : s = nullS := key_zero (by omega)
        simp [this] at hn
    · rintro ⟨⟨s, hm, hk⟩, h0⟩
      refine .inr ⟨rgOf s, List.mem_map.2 ⟨s, List.mem_filter.2 ⟨hm, ?_⟩, rfl⟩, by rw [lo_rgOf]; omega, by rw [hi_rgOf]; omega⟩
      have : s ≠ nullS := fun e => h0 (by rw [← hk, e, key_null])
      simpa using this
  · have h4 : (runsL ss).length ≤ _ := h3
    have h5 := List.length_filter_le (fun s => !(s == nullS)) ss
    simp only [List.length_nil, List.length_map] at h4
    omega
end Go.Proofs.Qxb6615018a
