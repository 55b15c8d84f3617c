/-
  DERIVED. slices.Replace by no more than goes.
-/
import Derived.Test.Qxb6615018aClr
namespace Go.Proofs.Qxb6615018a
open Go.RowKit Go.Sort

theorem clear_none (W : World) (ty : TypeId) (a : Addr) (c : Nat) : (Builtin.clear_ #[58] ty #[.slice (some a) 0 c]).run Try.prog W = .ok (.tuple #[]) W := by
  simp [Builtin.clear_, run_underlying Try.underlying58]

set_option maxRecDepth 100000 in
set_option maxHeartbeats 1000000 in
/-- No more comes than goes: in place; the places left over are cleared. -/
theorem replace_less (B g cap n l h vb m vc : Nat) (xs ys : List Value) (F G : Array Value) (W : World) (hlh : l < h) (hhn : h < n) (hm : 0 < m) (hbig : l + m ≤ h) (hncap : n ≤ cap) (hcap : cap ≤ 9223372036854775807) (hL : n + m ≤ 1000000000) (_hne : vb ≠ g) (hBg : B ≤ g)
    (hg : W.heap[g]? = some (.cells F 66 (0, 0))) (hv : W.heap[vb]? = some (.cells G 66 (0, 0))) (hF : F.size = cap) (hxl : xs.length = n) (hyl : ys.length = m) (hx : ∀ k : Nat, k < n → F[k]? = xs[k]?) (hy : ∀ (j : Nat) v, ys[j]? = some v → G[j]? = some v)
    (h1x : ∀ v ∈ xs, v.oneCell' = true) (h1y : ∀ v ∈ ys, v.oneCell' = true) (hml : cap ≤ maxLen) :
    Calls Try.prog 42 #[.slice (some ⟨g, 0, none⟩) n cap, .int .i64 l, .int .i64 h, .slice (some ⟨vb, 0, none⟩) m vc] W fun e w' => ∃ v', e = .returned v' ∧ w'.ownsRow B 66 1 v' (l + m + (n - h)) (xs.take l ++ ys ++ xs.drop h) ∧ W.grownBy w' (some g) := by
  have mixed : Try.prog.follows .mixedOrders = true := by kernel_rfl
  have q1 : (0 : Int) ≤ (l : Int) := by omega
  have q2 : (l : Int) ≤ (cap : Int) := by omega
  have q3 : (h : Int) ≤ (n : Int) := by omega
  have q4 : ((l : Int) == (h : Int)) = false := by simp; omega
  have q5 : ((h : Int) == (n : Int)) = false := by simp; omega
  have w1 : IntKind.i64.wrap ((l : Int) + (m : Int)) = (l : Int) + (m : Int) := by rw [IntKind.wrap_i64]; omega
  have w2 : IntKind.i64.wrap ((l : Int) + (m : Int) + ((n - h : Nat) : Int)) = (l : Int) + (m : Int) + ((n - h : Nat) : Int) := by rw [IntKind.wrap_i64]; omega
  go_enter Try.func42, Try.ntmps42
  go_upto_region 9 with fail
  go_quiet (fail)
  obtain ⟨X, hX⟩ : ∃ X, X = W.drewN nq := ⟨_, rfl⟩
  rw [← hX]
  have hgX : X.heap[g]? = some (.cells F 66 (0, 0)) := by rw [hX]; exact hg
  have hvX : X.heap[vb]? = some (.cells G 66 (0, 0)) := by rw [hX]; exact hv
  have hgr0 : W.grownBy X (some g) := by rw [hX]; exact ⟨rfl, rfl, rfl, Nat.le_refl _, fun _ _ _ => rfl⟩
  have hdl : (xs.drop h).length = n - h := by rw [List.length_drop, hxl]
  have hcp1 : ∀ ty dc, (Builtin.copy_ #[58, 58] ty #[.slice (some ⟨g, l, none⟩) (l + m + (n - h) - l) dc, .slice (some ⟨vb, 0, none⟩) m vc]).run Try.prog X = .ok (goInt ys.length) (X.setCells g l ys) := fun ty dc =>
    copy_row X ty g l (l + m + (n - h) - l) dc vb 0 m vc ys F G hgX hvX (by rw [hyl]; simp only [Nat.min_def]; split <;> omega) (fun j v hj => by rw [Nat.zero_add]; exact hy j v hj) (by omega) h1y
  obtain ⟨W1, hW1⟩ : ∃ W1, W1 = X.setCells g l ys := ⟨_, rfl⟩
  have hg1 : W1.heap[g]? = some (.cells (setMany F l ys) 66 (0, 0)) := by rw [hW1]; exact heap_setCells g 66 (0, 0) _ _ X F hgX
  have hgr1 : W.grownBy W1 (some g) := by rw [hW1]; exact hgr0.trans (grown_setCells g ys l X)
  have hcp2 : ∀ ty dc sc, (Builtin.copy_ #[58, 58] ty #[.slice (some ⟨g, l + m, none⟩) (n - h) dc, .slice (some ⟨g, h, none⟩) (n - h) sc]).run Try.prog W1.drew = .ok (goInt (xs.drop h).length) (W1.drew.setCells g (l + m) (xs.drop h)) := fun ty dc sc =>
    copy_row W1.drew ty g (l + m) (n - h) dc g h (n - h) sc (xs.drop h) (setMany F l ys) (setMany F l ys) hg1 hg1 (by rw [hdl]; simp only [Nat.min_def]; split <;> omega)
      (fun j v hj => by
        rw [setMany_get? _ _ _ _ (by omega), if_neg (by omega)]
        rw [List.getElem?_drop] at hj; rw [hx (h + j) (by have := (List.getElem?_eq_some_iff.1 hj).1; omega)]; exact hj) (by rw [hdl, size_setMany]; omega) (fun v hv => h1x v (List.mem_of_mem_drop hv))
  obtain ⟨W2, hW2⟩ : ∃ W2, W2 = W1.drew.setCells g (l + m) (xs.drop h) := ⟨_, rfl⟩
  have hg2 : W2.heap[g]? = some (.cells (setMany (setMany F l ys) (l + m) (xs.drop h)) 66 (0, 0)) := by rw [hW2]; exact heap_setCells g 66 (0, 0) _ _ W1.drew _ hg1
  have hgr2 : W.grownBy W2 (some g) := by
    have := grown_setCells g (xs.drop h) (l + m) W1.drew
    rw [hW2]
    exact hgr1.trans ⟨this.os, this.tape, this.output, this.size, this.block⟩
  have hrow : ∀ k, k < l + m + (n - h) → (setMany (setMany F l ys) (l + m) (xs.drop h))[k]? = (xs.take l ++ ys ++ xs.drop h)[k]? := fun k hk => by
    rw [setMany_get? _ _ _ _ (by rw [hdl, size_setMany]; omega), setMany_get? _ _ _ _ (by omega), spliced_get? xs ys l h k (by omega), hyl, hdl]
    by_cases c1 : k < l
    · rw [if_neg (by omega), if_neg (by omega), if_pos c1, hx k (by omega)]
    · by_cases c2 : k < l + m
      · rw [if_neg (by omega), if_pos (by omega), if_neg c1, if_pos c2]
      · rw [if_pos (by omega), if_neg c1, if_neg c2, List.getElem?_drop]
        congr 1; omega
  obtain ⟨W3, hcl, hfin⟩ : ∃ W3, (∀ ty b c, (b = (⟨g, l + m + (n - h), none⟩ : Addr) ∨ l + m + (n - h) = n) → (Builtin.clear_ #[58] ty #[.slice (some b) (n - (l + m + (n - h))) c]).run Try.prog W2 = .ok (.tuple #[]) W3) ∧ W3.ownsRow B 66 1 (.slice (some ⟨g, 0, none⟩) (l + m + (n - h)) cap) (l + m + (n - h)) (xs.take l ++ ys ++ xs.drop h) ∧ W.grownBy W3 (some g) := by
    by_cases h0 : l + m + (n - h) = n
    · refine ⟨W2, fun ty b c _ => by rw [h0, Nat.sub_self]; exact clear_none W2 ty b c, own_of_row hg2 hBg (by rw [size_setMany, size_setMany, hF]) (by omega) hml (by simp; omega) hrow, hgr2⟩
    · refine ⟨W2.setCells g (l + m + (n - h)) (List.replicate (n - (l + m + (n - h))) (.pointer none)), fun ty b c hb => ?_, own_of_row (heap_setCells g 66 (0, 0) _ _ W2 _ hg2) hBg (by rw [size_setMany, size_setMany, size_setMany, hF]) (by omega) hml (by simp; omega) (fun k hk => ?_), hgr2.trans (grown_setCells g _ _ W2)⟩
      · rcases hb with rfl | hb
        · exact clear_row W2 ty g _ _ c (by omega) _ hg2 (by rw [size_setMany, size_setMany]; omega)
        · exact absurd hb h0
      · rw [setMany_get? _ _ _ _ (by rw [size_setMany, size_setMany]; simp; omega), if_neg (by omega)]
        exact hrow k hk
  have HFIN : Hid (W3.ownsRow B 66 1 (.slice (some ⟨g, 0, none⟩) (l + m + (n - h)) cap) (l + m + (n - h)) (xs.take l ++ ys ++ xs.drop h) ∧ W.grownBy W3 (some g)) := hfin
  rw [← hW1] at hcp1
  rw [← hW2] at hcp2
  clear hg1 hgr1 hW1 hg hv hx hy h1x h1y hX hgX hvX hgr0 hfin hrow hg2 hgr2 hW2
  have hb1 : (0 : Int) ≤ (l : Int) + (m : Int) := by omega
  have htn : ((l : Int) + (m : Int)).toNat = l + m := by omega
  have hb2 : ¬ (cap = l + m) := by omega
  have hb3 : ¬ (cap = h) := by omega
  have hb4 : ¬ (cap = l) := by omega
  have hb5 : (l : Int) + (m : Int) ≤ (l : Int) + (m : Int) + ((n - h : Nat) : Int) := by omega
  have hb6 : (0 : Int) ≤ ((n - h : Nat) : Int) := by omega
  have hb7 : l + m + (n - h) - (l + m) = n - h := by omega
  have hb8 : (l : Int) + (m : Int) ≤ (h : Int) := by omega
  go_upto_region 17 with fail
  go_wp2_with (at_builtin; refine wpList_copy_runI _ rfl _ _ 58 58 rfl _ _ rfl rfl (hcp1 _ _) ?_)
  go_region_law_o (refine step_copy_runI rfl _ _ 58 58 rfl _ _ (by simp [Act.eval, Act.put]) (by simp [Act.eval, Act.put]) (hcp2 _ _ _) ?_)
  go_upto_region 19 with fail
  have htt : ((l : Int) + (m : Int) + ((n - h : Nat) : Int)).toNat = l + m + (n - h) := by omega
  have hb9 : (0 : Int) ≤ (l : Int) + (m : Int) + ((n - h : Nat) : Int) := by omega
  have hb10 : (l : Int) + (m : Int) + ((n - h : Nat) : Int) ≤ (n : Int) := by omega
  by_cases hct : cap = l + m + (n - h)
  · have HCL : Hid (∀ ty c, (Builtin.clear_ #[58] ty #[.slice (some ⟨g, 0, none⟩) (n - (l + m + (n - h))) c]).run Try.prog W2 = .ok (.tuple #[]) W3) := fun ty c => hcl ty _ c (.inr (by omega))
    clear hcl
    have hclr := HCL.out
    go_wp2
    go_ret
    exact ⟨_, rfl, HFIN.out.1, HFIN.out.2⟩
  · have HCL : Hid (∀ ty c, (Builtin.clear_ #[58] ty #[.slice (some ⟨g, l + m + (n - h), none⟩) (n - (l + m + (n - h))) c]).run Try.prog W2 = .ok (.tuple #[]) W3) := fun ty c => hcl ty _ c (.inl rfl)
    clear hcl
    have hclr := HCL.out
    go_wp2
    go_ret
    exact ⟨_, rfl, HFIN.out.1, HFIN.out.2⟩
end Go.Proofs.Qxb6615018a
