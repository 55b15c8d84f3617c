/-
  DERIVED. slices.Replace and slices.Insert at a nil slice of blocks.
-/
import Derived.Test.Qxb6615018aRuns
namespace Go.Proofs.Qxb6615018a
open Go.RowKit Go.Sort

set_option maxRecDepth 100000 in
set_option maxHeartbeats 1000000 in
theorem insert_nil (B B' : Nat) (u : Value) (m : Nat) (ys : List Value) (W : World) (hB : B ≤ W.heap.size) (hu : W.ownsRow B' 66 1 u m ys) (h1 : ∀ x ∈ ys, x.oneCell' = true) (hm : m ≤ 1000000000) :
    Calls Try.prog 57 #[.slice none 0 0, .int .i64 0, u] W fun e w' => ∃ v', e = .returned v' ∧ w'.ownsRow B 66 1 v' m ys ∧ W.grownBy w' none := by
  obtain ⟨i0, hinf, hz0, hz1, hz2⟩ := info_parts Try.info66
  have hyl : ys.length = m := by have := hu.1; omega
  rcases hu.2 with ⟨rfl, rfl⟩ | ⟨g, cap, cur, rfl, hg0, hg1, hg2, hg3, hg4, hg5⟩
  · have : ys = [] := List.length_eq_zero_iff.1 hyl
    subst this
    go_enter Try.func57, Try.ntmps57
    go_wp2
    go_ret
    exact ⟨_, rfl, World.ownsRow_nil _ _ _ _, ⟨rfl, rfl, rfl, Nat.le_refl _, fun _ _ _ => rfl⟩⟩
  · have hnews : ∀ j x, ys[j]? = some x → W.cell? ((⟨g, 0, none⟩ : Addr).add j) = some x := fun j x hj => by
      have hadd : (⟨g, 0, none⟩ : Addr).add j = ⟨g, 0 + j, none⟩ := by unfold Addr.add; split <;> simp_all
      have hjl := (List.getElem?_eq_some_iff.1 hj).1
      rw [hadd, Nat.zero_add, hu.cellAt j (by omega)]
      exact hj
    have HN : Hid (∀ j x, ys[j]? = some x → W.cell? ((⟨g, 0, none⟩ : Addr).add j) = some x) := hnews
    have H1 : Hid (∀ x ∈ ys, x.oneCell' = true) := h1
    have HYL : Hid (ys.length = m) := hyl
    clear hnews hu h1 hg1 hg4 hg5 hyl
    rcases Nat.eq_zero_or_pos m with h0 | h0
    · subst h0
      have : ys = [] := List.length_eq_zero_iff.1 HYL.out
      subst this
      go_enter Try.func57, Try.ntmps57
      go_wp2
      go_ret
      exact ⟨_, rfl, World.ownsRow_nil _ _ _ _, ⟨rfl, rfl, rfl, Nat.le_refl _, fun _ _ _ => rfl⟩⟩
    · have hmb : ((m : Int) == 0) = false := by simp; omega
      have hmb' : ¬ ((m : Int) = 0) := by omega
      go_enter Try.func57, Try.ntmps57
      go_wp2_with (at_builtin; refine wpList_append_own _ rfl (.tmp 23) (.tmp 24) 58 rfl B 66 i0 _ 1 8 Try.underlying58 hinf hz0 hz1 hz2 rfl (by decide) _ 0 [] rfl ?own ⟨g, 0, none⟩ m cap ys rfl ?ll ?news ?one ?c3 ?c4 ?c5 ?_)
      case own => exact World.ownsRow_nil _ _ _ _
      case ll => rw [HYL.out]; omega
      case news => exact HN.out
      case one => exact H1.out
      case c3 => unfold maxLen; omega
      case c4 => omega
      case c5 => exact hB
      intro v' w' ho' hg' _
      go_wp2
      go_ret
      refine ⟨v', rfl, ?_, hg'⟩
      simpa using ho'

set_option maxRecDepth 100000 in
set_option maxHeartbeats 1000000 in
theorem replace_nil (B : Nat) : ReplaceOK B (.slice none 0 0) 0 := by
  intro W xs u m ys l h B' hB hv hu _ _ h1 _ hlh hh hm
  obtain rfl : h = 0 := by omega
  obtain rfl : l = 0 := by omega
  have hx : xs = [] := List.length_eq_zero_iff.1 (by have := hv.1; omega)
  subst hx
  have C : Hid (Calls Try.prog 57 #[.slice none 0 0, .int .i64 0, u] W fun e w' => ∃ v', e = .returned v' ∧ w'.ownsRow B 66 1 v' m ys ∧ W.grownBy w' none) := insert_nil B B' u m ys W hB hu h1 (by omega)
  clear hu hv
  go_enter Try.func42, Try.ntmps42
  go_wp2_with (go_at_call 57; refine C.out.mono ?_; rintro e w' ⟨v', rfl, ho, hg⟩)
  go_ret
  exact ⟨v', rfl, by simpa using ho, hg⟩
end Go.Proofs.Qxb6615018a
