/-
  DERIVED. A row of one-cell elements, written in stretches.
-/
import Derived.Test.Qxb6615018aBlocks
import Derived.Shelf.GgSortFunc.RowK
import Derived.Deep.Upon
namespace Go.Proofs.Qxb6615018a
open Go.RowKit Go.Sort

theorem heap_setCells (g : Nat) (t : TypeId) (fr : Nat × Nat) : ∀ (vs : List Value) (o : Nat) (w : World) (cur : Array Value), w.heap[g]? = some (.cells cur t fr) → (w.setCells g o vs).heap[g]? = some (.cells (setMany cur o vs) t fr)
  | [], _, _, _, h => h
  | v :: r, o, w, cur, h => by
    rw [World.setCells, setMany]
    refine heap_setCells g t fr r (o + 1) _ _ ?_
    simp [World.setCell, Array.getElem?_modify, h]

theorem grown_setCells (g : Nat) (vs : List Value) (o : Nat) (w : World) : w.grownBy (w.setCells g o vs) (some g) := by
  have hs : ∀ (vs : List Value) (o : Nat) (w : World), (w.setCells g o vs).os = w.os ∧ (w.setCells g o vs).tape = w.tape ∧ (w.setCells g o vs).output = w.output ∧ (w.setCells g o vs).heap.size = w.heap.size := by
    intro vs
    induction vs with
    | nil => intro o w; exact ⟨rfl, rfl, rfl, rfl⟩
    | cons v r ih =>
      intro o w
      have h := ih (o + 1) (w.setCell ⟨g, o, none⟩ v)
      refine ⟨h.1, h.2.1, h.2.2.1, ?_⟩
      rw [World.setCells, h.2.2.2]
      simp [World.setCell]
  have h := hs vs o w
  exact ⟨h.1, h.2.1, h.2.2.1, by rw [h.2.2.2]; exact Nat.le_refl _, fun k hk hne => World.heap_setCells_other w g o vs hk (fun e => hne (by rw [e]))⟩

/-- What stands in an array after a stretch was written. -/
theorem setMany_get? (F : Array Value) (o : Nat) (vs : List Value) (k : Nat) (h : o + vs.length ≤ F.size) : (setMany F o vs)[k]? = if o ≤ k ∧ k < o + vs.length then vs[k - o]? else F[k]? := by
  by_cases hk : k < F.size
  · have h1 := get_setMany vs o F k hk
    have hk' : k < (setMany F o vs).size := by rw [size_setMany]; exact hk
    rw [getElem!_pos (setMany F o vs) k hk'] at h1
    rw [Array.getElem?_eq_getElem hk', h1]
    by_cases hc : o ≤ k ∧ k < o + vs.length
    · rw [if_pos hc, if_pos hc]
      have : k - o < vs.length := by omega
      simp [this]
    · rw [if_neg hc, if_neg hc]
      simp [hk]
  · rw [Array.getElem?_eq_none (by rw [size_setMany]; omega), if_neg (by omega), Array.getElem?_eq_none (by omega)]

/-- xs.take l, ys, xs.drop h: place by place. -/
theorem spliced_get? (xs ys : List Value) (l h k : Nat) (hl : l ≤ xs.length) : (xs.take l ++ ys ++ xs.drop h)[k]? = if k < l then xs[k]? else if k < l + ys.length then ys[k - l]? else xs[k - (l + ys.length) + h]? := by
  by_cases h1 : k < l
  · rw [if_pos h1, List.append_assoc, List.getElem?_append_left (by simp; omega), List.getElem?_take_of_lt h1]
  · rw [if_neg h1]
    by_cases h2 : k < l + ys.length
    · rw [if_pos h2, List.append_assoc, List.getElem?_append_right (by simp; omega), List.getElem?_append_left (by simp; omega)]
      congr 1
      simp; omega
    · rw [if_neg h2, List.getElem?_append_right (by simp; omega), List.getElem?_drop]
      congr 1
      simp; omega

/-- A row whose first tot places read as they should. -/
theorem own_of_row {w : World} {B g cap tot : Nat} {F : Array Value} {zs : List Value} (hb : w.heap[g]? = some (.cells F 66 (0, 0))) (hB : B ≤ g) (hF : F.size = cap) (ht : tot ≤ cap) (hc : cap ≤ maxLen) (hz : zs.length = tot) (hg : ∀ k, k < tot → F[k]? = zs[k]?) :
    w.ownsRow B 66 1 (.slice (some ⟨g, 0, none⟩) tot cap) tot zs := by
  refine ⟨by omega, .inr ⟨g, cap, F, rfl, hB, hb, ht, hc, by omega, ?_⟩⟩
  apply List.ext_getElem?
  intro k
  by_cases hk : k < tot
  · rw [List.getElem?_take_of_lt (by omega), Array.getElem?_toList]; exact hg k hk
  · rw [List.getElem?_take_eq_none (by omega), List.getElem?_eq_none (by omega)]
end Go.Proofs.Qxb6615018a
