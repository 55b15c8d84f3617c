/-
  DERIVED. AddAll at a Knowledge whose own memory is younger than itself.
-/
import Derived.Test.Qxb6615018aStrip
import Derived.Test.Qxb6615018aGen
import Derived.Test.Qxb6615018aPl5
namespace Go.Proofs.Qxb6615018a
open Go.RowKit Go.Sort

/-- AddAll, whatever the Knowledge holds. -/
theorem adds_any (B K D : Nat) (bs : List (List Rg)) (v : Value) (ss : List Sn) (w : World) (hB : B ≤ w.heap.size) (hKB : B ≤ K) (hK : Know B w K bs) (hG : Good bs) (hown : w.ownsRow D 27 17 v ss.length (flatS ss)) (hbd : bs.flatten.length + ss.length ≤ 10000000) :
    Calls Try.prog 7 #[.pointer (some ⟨K, 0, none⟩), v] w fun e w' => e = .returned (.tuple #[]) ∧ Fr (FA B K v.ownBlock) w w' ∧ w'.ownsRow D 27 17 v ss.length (flatS (sortS ss)) ∧ ∃ bs', Know B w' K bs' ∧ Good bs' ∧ bs'.flatten.length ≤ bs.flatten.length + ss.length ∧ ∀ x, mem x bs'.flatten ↔ mem x bs.flatten ∨ (isKey x ss ∧ x ≠ 0) := by
  refine (addAll_any B K D bs v ss w hB hKB hK hG hown hbd (.inl (gen_all B)) (replace_nil B) (fun s W => ?_)).mono ?_
  · refine (find_any W 0 none 0 [] [] s (World.ownsRow_nil _ _ _ _) (BlksAt.nil _) Good.nil (by simp)).mono ?_
    rintro e w' ⟨i, rfl, hF, hg⟩
    obtain rfl : i = 0 := by have := hF.1; simp at this; exact this
    exact ⟨rfl, hg⟩
  · rintro e w' ⟨h1, h2, h3, bs', h4, h5, h6, h7⟩
    exact ⟨h1, h2, h3, bs', h4, h5, h6, fun x => by rw [h7, isKey_added]⟩

/-- .. where the batch is younger than the Knowledge: all that is elder stays. -/
theorem adds_young (K D : Nat) (bs : List (List Rg)) (v : Value) (ss : List Sn) (w : World) (hK : Know K w K bs) (hG : Good bs) (hKD : K < D) (hown : w.ownsRow D 27 17 v ss.length (flatS ss)) (hbd : bs.flatten.length + ss.length ≤ 10000000) :
    Calls Try.prog 7 #[.pointer (some ⟨K, 0, none⟩), v] w fun e w' => e = .returned (.tuple #[]) ∧ Below K w w' ∧ ∃ bs', Know K w' K bs' ∧ Good bs' ∧ bs'.flatten.length ≤ bs.flatten.length + ss.length ∧ ∀ x, mem x bs'.flatten ↔ mem x bs.flatten ∨ (isKey x ss ∧ x ≠ 0) := by
  have hlt := hK.lt
  refine (adds_any K K D bs v ss w (by omega) (Nat.le_refl _) hK hG hown hbd).mono ?_
  rintro e w' ⟨h1, h2, h3, bs', h4⟩
  refine ⟨h1, h2.below (by omega) (fun b t hb => ⟨fun e => ?_, by omega, .inl hb⟩), bs', h4⟩
  have := (hown.lt b e.symm).1
  omega

theorem Know.fresh (w : World) : Know w.heap.size (w.alloc (.cells #[.pointer none] 34)) w.heap.size [] :=
  ⟨none, .slice none 0 0, [], heap_alloc_last _ _, World.ownsRow_nil _ _ _ _, BlksAt.nil _, .inl ⟨rfl, rfl⟩⟩
end Go.Proofs.Qxb6615018a
