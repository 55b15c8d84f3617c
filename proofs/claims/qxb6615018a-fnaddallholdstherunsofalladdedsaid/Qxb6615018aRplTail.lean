/-
  DERIVED. slices.Replace of a row's end.
-/
import Derived.Test.Qxb6615018aClr
import Derived.Deep.DeepAppendRoom
namespace Go.Proofs.Qxb6615018a
open Go.RowKit Go.Sort

set_option maxRecDepth 100000 in
set_option maxHeartbeats 1000000 in
/-- The row's end goes. -/
theorem replace_tail (B B' g cap n l vb m vc : Nat) (xs ys : List Value) (W : World) (hB : B ≤ W.heap.size) (hln : l < n) (hm : 0 < m) (hL : n + m ≤ 1000000000) (ho : W.ownsRow B 66 1 (.slice (some ⟨g, 0, none⟩) n cap) n xs) (hu : W.ownsRow B' 66 1 (.slice (some ⟨vb, 0, none⟩) m vc) m ys) (h1 : ∀ x ∈ ys, x.oneCell' = true) :
    Calls Try.prog 42 #[.slice (some ⟨g, 0, none⟩) n cap, .int .i64 l, .int .i64 n, .slice (some ⟨vb, 0, none⟩) m vc] W fun e w' => ∃ v', e = .returned v' ∧ w'.ownsRow B 66 1 v' (l + m) (xs.take l ++ ys) ∧ W.grownBy w' (some g) := by
  obtain ⟨i0, hinf, hz0, hz1, hz2⟩ := info_parts Try.info66
  have hyl : ys.length = m := by have := hu.1; omega
  obtain ⟨g', cap', F, heq, hgB, hg, hnc, hcm, hF, hxl, hx⟩ := row_of ho (by omega)
  obtain ⟨rfl, rfl⟩ : g' = g ∧ cap' = cap := by cases heq; exact ⟨rfl, rfl⟩
  have hol : W.ownsRow B 66 1 (.slice (some ⟨g', 0, none⟩) l cap') l (xs.take l) := own_of_row hg hgB hF (by omega) hcm (by simp; omega) (fun k hk => by rw [hx k (by omega), List.getElem?_take_of_lt hk])
  have HN : Hid (∀ j x, ys[j]? = some x → W.cell? ((⟨vb, 0, none⟩ : Addr).add j) = some x) := fun j x hj => by
    have hadd : (⟨vb, 0, none⟩ : Addr).add j = ⟨vb, 0 + j, none⟩ := by unfold Addr.add; split <;> simp_all
    have hjl := (List.getElem?_eq_some_iff.1 hj).1
    rw [hadd, Nat.zero_add, hu.cellAt j (by omega)]
    exact hj
  have HN2 : Hid (∀ j x, ys[j]? = some x → W.cell? ⟨vb, j, none⟩ = some x) := fun j x hj => by rw [hu.cellAt j (by have := (List.getElem?_eq_some_iff.1 hj).1; omega)]; exact hj
  have H1 : Hid (∀ x ∈ ys, x.oneCell' = true) := h1
  have HYL : Hid (ys.length = m) := hyl
  have HO : Hid (W.ownsRow B 66 1 (.slice (some ⟨g', 0, none⟩) l cap') l (xs.take l)) := hol
  have q1 : (0 : Int) ≤ (l : Int) := by omega
  have q2 : (l : Int) ≤ (cap' : Int) := by omega
  have q3 : (l : Int) ≤ (n : Int) := by omega
  have q4 : ((l : Int) == (n : Int)) = false := by simp; omega
  have q4' : ¬ ((l : Int) = (n : Int)) := by omega
  have q5 : ¬ (cap' = l) := by omega
  have q6 : (n : Int) ≤ (cap' : Int) := by omega
  clear heq hu h1 hyl ho hol hg hx hF
  by_cases hroom : l + m ≤ cap'
  · by_cases hc : l + m < n
    · have hci : (l : Int) + (m : Int) < (n : Int) := by omega
      have htn : ((l : Int) + (m : Int)).toNat = l + m := by omega
      have q7 : ¬ (cap' = l + m) := by omega
      go_enter Try.func42, Try.ntmps42
      go_wp2_with (at_builtin; refine wpList_append_own_spare _ rfl (.tmp 32) (.tmp 33) 58 rfl B 66 i0 1 Try.underlying58 hinf hz1 g' l cap' (xs.take l) rfl ?own ⟨vb, 0, none⟩ m vc ys rfl ?ll ?news ?one hroom ?_)
      case own => exact HO.out
      case ll => first | exact HYL.out | (rw [HYL.out]; omega)
      case news => first | exact HN.out | exact HN2.out
      case one => exact H1.out
      intro w' ho' hg'
      obtain ⟨g2, cap2, F2, heq, _, hg2, _, _, hF2, _, hx2⟩ := row_of ho' (by omega)
      obtain ⟨rfl, rfl⟩ : g2 = g' ∧ cap2 = cap' := by cases heq; exact ⟨rfl, rfl⟩
      have HC : Hid (∀ ty c, (Builtin.clear_ #[58] ty #[.slice (some ⟨g2, l + m, none⟩) (n - (l + m)) c]).run Try.prog w' = .ok (.tuple #[]) (w'.setCells g2 (l + m) (List.replicate (n - (l + m)) (.pointer none)))) := fun ty c => clear_row w' ty g2 (l + m) (n - (l + m)) c (by omega) F2 hg2 (by omega)
      have HFIN : Hid ((w'.setCells g2 (l + m) (List.replicate (n - (l + m)) (.pointer none))).ownsRow B 66 1 (.slice (some ⟨g2, 0, none⟩) (l + m) cap2) (l + m) (xs.take l ++ ys) ∧ W.grownBy (w'.setCells g2 (l + m) (List.replicate (n - (l + m)) (.pointer none))) (some g2)) := by
        refine ⟨own_of_row (heap_setCells g2 66 (0, 0) _ _ w' F2 hg2) hgB (by rw [size_setMany]; exact hF2) hroom hcm (by simp [HYL.out]; omega) (fun k hk => ?_), hg'.trans (grown_setCells g2 _ _ w')⟩
        rw [setMany_get? _ _ _ _ (by simp; omega), if_neg (by omega)]
        exact hx2 k hk
      clear ho' hg' hg2 hF2 hx2 heq HO HN HN2 H1 HYL
      have hclr := HC.out
      go_wp2
      go_ret
      exact ⟨_, rfl, HFIN.out.1, HFIN.out.2⟩
    · have hci : ¬ ((l : Int) + (m : Int) < (n : Int)) := by omega
      go_enter Try.func42, Try.ntmps42
      go_wp2_with (at_builtin; refine wpList_append_own_spare _ rfl (.tmp 32) (.tmp 33) 58 rfl B 66 i0 1 Try.underlying58 hinf hz1 g' l cap' (xs.take l) rfl ?own ⟨vb, 0, none⟩ m vc ys rfl ?ll ?news ?one hroom ?_)
      case own => exact HO.out
      case ll => first | exact HYL.out | (rw [HYL.out]; omega)
      case news => first | exact HN.out | exact HN2.out
      case one => exact H1.out
      intro w' ho' hg'
      have HFIN : Hid (w'.ownsRow B 66 1 (.slice (some ⟨g', 0, none⟩) (l + m) cap') (l + m) (xs.take l ++ ys) ∧ W.grownBy w' (some g')) := ⟨ho', hg'⟩
      clear ho' hg' HO HN HN2 H1 HYL
      go_wp2
      go_ret
      exact ⟨_, rfl, HFIN.out.1, HFIN.out.2⟩
  · have hci : ¬ ((l : Int) + (m : Int) < (n : Int)) := by omega
    go_enter Try.func42, Try.ntmps42
    go_wp2_with (at_builtin; refine wpList_append_own _ rfl (.tmp 32) (.tmp 33) 58 rfl B 66 i0 _ 1 8 Try.underlying58 hinf hz0 hz1 hz2 rfl (by decide) _ l (xs.take l) rfl ?own ⟨vb, 0, none⟩ m vc ys rfl ?ll ?news ?one ?c3 ?c4 ?c5 ?_)
    case own => exact HO.out
    case ll => first | exact HYL.out | (rw [HYL.out]; omega)
    case news => first | exact HN.out | exact HN2.out
    case one => exact H1.out
    case c3 => unfold maxLen; omega
    case c4 => omega
    intro v' w' ho' hg' _
    obtain ⟨a', c', rfl⟩ := own_form ho'
    have HFIN : Hid (w'.ownsRow B 66 1 (.slice a' (l + m) c') (l + m) (xs.take l ++ ys) ∧ W.grownBy w' (some g')) := ⟨ho', hg'⟩
    clear ho' hg' HO HN HN2 H1 HYL
    go_wp2
    go_ret
    exact ⟨_, rfl, HFIN.out.1, HFIN.out.2⟩
end Go.Proofs.Qxb6615018a
