/-
  DERIVED. What a batch adds: its serial numbers but the null one.
-/
import Derived.Test.Qxb6615018aAdd
namespace Go.Proofs.Qxb6615018a
open Go.RowKit Go.Sort

theorem key_null : key nullS = 0 := by
  have h1 : natL (Vector.replicate 16 (0 : UInt8)).toList = 0 := by decide
  have h2 : key nullS = natL (Vector.replicate 16 (0 : UInt8)).toList * 36893488147419103232 + (0 : UInt64).toNat := rfl
  rw [h2, h1]; rfl
theorem key_zero {s : Sn} (h : key s = 0) : s = nullS := key_inj (h.trans key_null.symm)

theorem isKey_strip : ∀ (S : List Sn), Sorted S → ∀ x, isKey x (strip S) ↔ isKey x S ∧ x ≠ 0
  | [], _, x => by simp [strip, isKey]
  | s :: S, hS, x => by
    have hp := List.pairwise_cons.1 hS
    cases hn : (s == nullS) with
    | true =>
      have e : s = nullS := by simpa using hn
      subst e
      rw [strip_cons_eq, isKey_strip S hp.2 x]
      constructor
      · rintro ⟨⟨t, ht, hk⟩, h0⟩; exact ⟨⟨t, by simp [ht], hk⟩, h0⟩
      · rintro ⟨⟨t, ht, hk⟩, h0⟩
        rcases List.mem_cons.1 ht with rfl | ht
        · rw [key_null] at hk; exact absurd hk.symm h0
        · exact ⟨⟨t, ht, hk⟩, h0⟩
    | false =>
      rw [strip_cons_ne hn]
      constructor
      · rintro ⟨t, ht, hk⟩
        refine ⟨⟨t, ht, hk⟩, fun h0 => ?_⟩
        subst h0
        have hs0 : key s = 0 := by
          rcases List.mem_cons.1 ht with rfl | ht
          · exact hk
          · have := hp.1 t ht; omega
        rw [key_zero hs0] at hn
        simp at hn
      · rintro ⟨h, _⟩; exact h

theorem isKey_sort (x : Nat) (ss : List Sn) : isKey x (sortS ss) ↔ isKey x ss := by
  have hp : (sortS ss).Perm ss := List.mergeSort_perm _ _
  constructor
  · rintro ⟨s, hs, hk⟩; exact ⟨s, hp.mem_iff.1 hs, hk⟩
  · rintro ⟨s, hs, hk⟩; exact ⟨s, hp.mem_iff.2 hs, hk⟩
theorem isKey_added (x : Nat) (ss : List Sn) : isKey x (strip (sortS ss)) ↔ isKey x ss ∧ x ≠ 0 := by
  rw [isKey_strip _ (sortS_sorted ss) x, isKey_sort]
end Go.Proofs.Qxb6615018a
