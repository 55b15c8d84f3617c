/-
  DERIVED. slices.Insert at a slice of blocks: every place.
-/
import Derived.Test.Qxb6615018aIns
import Derived.Test.Qxb6615018aNil
namespace Go.Proofs.Qxb6615018a
open Go.RowKit Go.Sort

set_option maxRecDepth 100000 in
set_option maxHeartbeats 1000000 in
/-- At the end. -/
theorem insert_end (B B' n m vb vc : Nat) (v : Value) (xs ys : List Value) (W : World) (hB : B ≤ W.heap.size) (hm : 0 < m) (hL : n + m ≤ 1000000000) (ho : W.ownsRow B 66 1 v n xs) (hu : W.ownsRow B' 66 1 (.slice (some ⟨vb, 0, none⟩) m vc) m ys) (h1 : ∀ x ∈ ys, x.oneCell' = true) :
    Calls Try.prog 57 #[v, .int .i64 n, .slice (some ⟨vb, 0, none⟩) m vc] W fun e w' => ∃ v', e = .returned v' ∧ w'.ownsRow B 66 1 v' (n + m) (xs ++ ys) ∧ W.grownBy w' v.ownBlock := by
  obtain ⟨i0, hinf, hz0, hz1, hz2⟩ := info_parts Try.info66
  have hyl : ys.length = m := by have := hu.1; omega
  obtain ⟨a, c, rfl⟩ := own_form ho
  have hnc : n ≤ c := by
    rcases ho.2 with ⟨h1, h2⟩ | ⟨g, cap, cur, h1, _, _, h2, _⟩
    · omega
    · cases h1; exact h2
  have HN : Hid (∀ j x, ys[j]? = some x → W.cell? ((⟨vb, 0, none⟩ : Addr).add j) = some x) := fun j x hj => by
    have hadd : (⟨vb, 0, none⟩ : Addr).add j = ⟨vb, 0 + j, none⟩ := by unfold Addr.add; split <;> simp_all
    have hjl := (List.getElem?_eq_some_iff.1 hj).1
    rw [hadd, Nat.zero_add, hu.cellAt j (by omega)]
    exact hj
  have H1 : Hid (∀ x ∈ ys, x.oneCell' = true) := h1
  have HYL : Hid (ys.length = m) := hyl
  have HO : Hid (W.ownsRow B 66 1 (.slice a n c) n xs) := ho
  have hmb' : ¬ ((m : Int) = 0) := by omega
  have hmb : ((m : Int) == 0) = false := by simp; omega
  clear hu h1 hyl ho
  by_cases hcn : c = n
  · subst hcn
    go_enter Try.func57, Try.ntmps57
    go_wp2_with (at_builtin; refine wpList_append_own _ rfl (.tmp 23) (.tmp 24) 58 rfl B 66 i0 _ 1 8 Try.underlying58 hinf hz0 hz1 hz2 rfl (by decide) _ c xs rfl ?own ⟨vb, 0, none⟩ m vc ys rfl ?ll ?news ?one ?c3 ?c4 ?c5 ?_)
    case own => exact HO.out
    case ll => rw [HYL.out]; omega
    case news => exact HN.out
    case one => exact H1.out
    case c3 => unfold maxLen; omega
    case c4 => omega
    case c5 => exact hB
    intro v' w' ho' hg' _
    go_wp2
    go_ret
    exact ⟨v', rfl, ho', hg'⟩
  · have hcn' : ¬ (c = n) := hcn
    go_enter Try.func57, Try.ntmps57
    go_wp2_with (at_builtin; refine wpList_append_own _ rfl (.tmp 23) (.tmp 24) 58 rfl B 66 i0 _ 1 8 Try.underlying58 hinf hz0 hz1 hz2 rfl (by decide) _ n xs rfl ?own ⟨vb, 0, none⟩ m vc ys rfl ?ll ?news ?one ?c3 ?c4 ?c5 ?_)
    case own => exact HO.out
    case ll => rw [HYL.out]; omega
    case news => exact HN.out
    case one => exact H1.out
    case c3 => unfold maxLen; omega
    case c4 => omega
    case c5 => exact hB
    intro v' w' ho' hg' _
    go_wp2
    go_ret
    exact ⟨v', rfl, ho', hg'⟩

theorem row_of {W : World} {B n : Nat} {v : Value} {xs : List Value} (h : W.ownsRow B 66 1 v n xs) (hn : 0 < n) : ∃ g cap F, v = .slice (some ⟨g, 0, none⟩) n cap ∧ B ≤ g ∧ W.heap[g]? = some (.cells F 66 (0, 0)) ∧ n ≤ cap ∧ cap ≤ maxLen ∧ F.size = cap ∧ xs.length = n ∧ ∀ k : Nat, k < n → F[k]? = xs[k]? := by
  have hxl : xs.length = n := by have := h.1; omega
  rcases h.2 with ⟨_, h2⟩ | ⟨g, cap, cur, rfl, h1, h2, h3, h4, h5, h6⟩
  · omega
  · refine ⟨g, cap, cur, rfl, h1, h2, h3, h4, by omega, hxl, fun k hk => ?_⟩
    rw [← h6, List.getElem?_take_of_lt (by omega), Array.getElem?_toList]

theorem insert_any (B B' n m i : Nat) (v u : Value) (xs ys : List Value) (W : World) (hB : B ≤ W.heap.size) (hm : 0 < m) (hi : i ≤ n) (hL : n + m ≤ 1000000000) (ho : W.ownsRow B 66 1 v n xs) (hu : W.ownsRow B' 66 1 u m ys) (hD : ∀ g, v.ownBlock = some g → g < B') (h1x : ∀ x ∈ xs, x.oneCell' = true) (h1y : ∀ x ∈ ys, x.oneCell' = true) :
    Calls Try.prog 57 #[v, .int .i64 i, u] W fun e w' => ∃ v', e = .returned v' ∧ w'.ownsRow B 66 1 v' (n + m) (xs.take i ++ ys ++ xs.drop i) ∧ W.grownBy w' v.ownBlock := by
  obtain ⟨vb, vc, G, rfl, hvB, hv, hmc, _, hGs, hyl, hy⟩ := row_of hu hm
  have hxl : xs.length = n := by have := ho.1; omega
  rcases Nat.eq_or_lt_of_le hi with rfl | hlt
  · have := insert_end B B' i m vb vc v xs ys W hB hm hL ho hu h1y
    rw [List.take_of_length_le (by omega), List.drop_of_length_le (by omega), List.append_nil]
    exact this
  · obtain ⟨g, cap, F, rfl, hgB, hg, hnc, hcm, hF, _, hx⟩ := row_of ho (by omega)
    have hgv : vb ≠ g := by have := hD g rfl; omega
    have hy' : ∀ (j : Nat) v, ys[j]? = some v → G[j]? = some v := fun j v hj => by rw [hy j (by have := (List.getElem?_eq_some_iff.1 hj).1; omega)]; exact hj
    by_cases hroom : n + m ≤ cap
    · exact insert_room B g cap n i vb m vc xs ys F G W hlt hm hroom (by unfold maxLen at hcm; omega) hgv hgB hg hv hF hxl hyl hx hy' h1x h1y hcm
    · exact insert_grow B g cap n i vb m vc xs ys F G W hlt hm (by omega) hnc hL hB hg hv hF hxl hyl hx hy' h1x h1y
end Go.Proofs.Qxb6615018a
