/-
  DERIVED. slices.Replace at a slice of blocks.
-/
import Derived.Test.Qxb6615018aIns2
namespace Go.Proofs.Qxb6615018a
open Go.RowKit Go.Sort

set_option maxRecDepth 100000 in
set_option maxHeartbeats 1000000 in
/-- Nothing goes: Insert. -/
theorem replace_eq (B B' n m l : Nat) (v u : Value) (xs ys : List Value) (W : World) (hB : B ≤ W.heap.size) (hm : 0 < m) (hl : l ≤ n) (hL : n + m ≤ 1000000000) (ho : W.ownsRow B 66 1 v n xs) (hu : W.ownsRow B' 66 1 u m ys) (hD : ∀ g, v.ownBlock = some g → g < B') (h1x : ∀ x ∈ xs, x.oneCell' = true) (h1y : ∀ x ∈ ys, x.oneCell' = true) :
    Calls Try.prog 42 #[v, .int .i64 l, .int .i64 l, u] W fun e w' => ∃ v', e = .returned v' ∧ w'.ownsRow B 66 1 v' (n + m) (xs.take l ++ ys ++ xs.drop l) ∧ W.grownBy w' v.ownBlock := by
  have C : Hid (Calls Try.prog 57 #[v, .int .i64 l, u] W fun e w' => ∃ v', e = .returned v' ∧ w'.ownsRow B 66 1 v' (n + m) (xs.take l ++ ys ++ xs.drop l) ∧ W.grownBy w' v.ownBlock) := insert_any B B' n m l v u xs ys W hB hm hl hL ho hu hD h1x h1y
  obtain ⟨a, c, rfl⟩ := own_form ho
  have hnc : n ≤ c := by
    rcases ho.2 with ⟨h1, h2⟩ | ⟨g, cap, cur, h1, _, _, h2, _⟩
    · omega
    · cases h1; exact h2
  have hli : (l : Int) ≤ (c : Int) := by omega
  have hl0 : (0 : Int) ≤ (l : Int) := by omega
  clear ho hu hD h1x h1y
  go_enter Try.func42, Try.ntmps42
  go_wp2_with (go_at_call 57; refine C.out.mono ?_; rintro e w' ⟨v', rfl, ho', hg'⟩)
  all_goals go_ret
  all_goals refine ⟨v', rfl, by rw [← List.append_assoc]; exact ho', ?_⟩
  all_goals cases a <;> exact hg'

set_option maxRecDepth 100000 in
set_option maxHeartbeats 1000000 in
/-- More comes than goes, and there is room: in place. -/
theorem replace_shift (B g cap n l h vb m vc : Nat) (xs ys : List Value) (F G : Array Value) (W : World) (hlh : l < h) (hhn : h < n) (hm : 0 < m) (hbig : h < l + m) (hroom : l + m + (n - h) ≤ cap) (hncap : n ≤ cap) (hcap : cap ≤ 9223372036854775807) (hL : n + m ≤ 1000000000) (hne : vb ≠ g) (hBg : B ≤ g)
    (hg : W.heap[g]? = some (.cells F 66 (0, 0))) (hv : W.heap[vb]? = some (.cells G 66 (0, 0))) (hF : F.size = cap) (hxl : xs.length = n) (hyl : ys.length = m) (hx : ∀ k : Nat, k < n → F[k]? = xs[k]?) (hy : ∀ (j : Nat) v, ys[j]? = some v → G[j]? = some v)
    (h1x : ∀ v ∈ xs, v.oneCell' = true) (h1y : ∀ v ∈ ys, v.oneCell' = true) (hml : cap ≤ maxLen) :
    Calls Try.prog 42 #[.slice (some ⟨g, 0, none⟩) n cap, .int .i64 l, .int .i64 h, .slice (some ⟨vb, 0, none⟩) m vc] W fun e w' => ∃ v', e = .returned v' ∧ w'.ownsRow B 66 1 v' (l + m + (n - h)) (xs.take l ++ ys ++ xs.drop h) ∧ W.grownBy w' (some g) := by
  have mixed : Try.prog.follows .mixedOrders = true := by kernel_rfl
  have hov : ∀ (X : World), X.heap = W.heap → ∀ la ca, (callFunc 58 #[.slice (some ⟨g, l + m, none⟩) la ca, .slice (some ⟨vb, 0, none⟩) m vc]).run Try.prog X = .ok (.value (.bool false)) X := fun X hX la ca => overlaps_no X g vb (l + m) 0 la ca m vc F G (by rw [hX]; exact hg) (by rw [hX]; exact hv) (Ne.symm hne) (by
    intro h0
    have := hy 0 (ys[0]'(by omega)) (List.getElem?_eq_getElem (by omega))
    have := (Array.getElem?_eq_some_iff.1 this).1
    omega)
  have q1 : (0 : Int) ≤ (l : Int) := by omega
  have q2 : (l : Int) ≤ (cap : Int) := by omega
  have q3 : (h : Int) ≤ (n : Int) := by omega
  have q4 : ((l : Int) == (h : Int)) = false := by simp; omega
  have q5 : ((h : Int) == (n : Int)) = false := by simp; omega
  have w1 : IntKind.i64.wrap ((l : Int) + (m : Int)) = (l : Int) + (m : Int) := by rw [IntKind.wrap_i64]; omega
  have w2 : IntKind.i64.wrap ((l : Int) + (m : Int) + ((n - h : Nat) : Int)) = (l : Int) + (m : Int) + ((n - h : Nat) : Int) := by rw [IntKind.wrap_i64]; omega
  go_enter Try.func42, Try.ntmps42
  go_upto_region 9 with fail
  go_quiet (fail)
  obtain ⟨X, hX⟩ : ∃ X, X = W.drewN nq := ⟨_, rfl⟩
  rw [← hX]
  have hgX : X.heap[g]? = some (.cells F 66 (0, 0)) := by rw [hX]; exact hg
  have hvX : X.heap[vb]? = some (.cells G 66 (0, 0)) := by rw [hX]; exact hv
  have hgr0 : W.grownBy X (some g) := by rw [hX]; exact ⟨rfl, rfl, rfl, Nat.le_refl _, fun _ _ _ => rfl⟩
  have hovX := fun la ca => hov X (by rw [hX]; rfl) la ca
  have hdl : (xs.drop h).length = n - h := by rw [List.length_drop, hxl]
  have hcp1 : ∀ ty dc sc, (Builtin.copy_ #[58, 58] ty #[.slice (some ⟨g, l + m, none⟩) (n - h) dc, .slice (some ⟨g, h, none⟩) (n - h) sc]).run Try.prog X.drew = .ok (goInt (xs.drop h).length) (X.drew.setCells g (l + m) (xs.drop h)) := fun ty dc sc =>
    copy_row X.drew ty g (l + m) (n - h) dc g h (n - h) sc (xs.drop h) F F hgX hgX (by rw [hdl]; simp only [Nat.min_def]; split <;> omega)
      (fun j v hj => by rw [List.getElem?_drop] at hj; rw [hx (h + j) (by have := (List.getElem?_eq_some_iff.1 hj).1; omega)]; exact hj) (by rw [hdl]; omega) (fun v hv => h1x v (List.mem_of_mem_drop hv))
  obtain ⟨W1, hW1⟩ : ∃ W1, W1 = X.drew.setCells g (l + m) (xs.drop h) := ⟨_, rfl⟩
  have hg1 : W1.heap[g]? = some (.cells (setMany F (l + m) (xs.drop h)) 66 (0, 0)) := by rw [hW1]; exact heap_setCells g 66 (0, 0) _ _ X.drew F hgX
  have hgr1 : W.grownBy W1 (some g) := by
    have := grown_setCells g (xs.drop h) (l + m) X.drew
    rw [hW1]
    exact hgr0.trans ⟨this.os, this.tape, this.output, this.size, this.block⟩
  have hv1 : W1.heap[vb]? = some (.cells G 66 (0, 0)) := (hgr1.block vb (Array.getElem?_eq_some_iff.1 hv).1 (fun e => hne (Option.some.inj e))).trans hv
  have hcp2 : ∀ ty dc, (Builtin.copy_ #[58, 58] ty #[.slice (some ⟨g, l, none⟩) (l + m + (n - h) - l) dc, .slice (some ⟨vb, 0, none⟩) m vc]).run Try.prog W1 = .ok (goInt ys.length) (W1.setCells g l ys) := fun ty dc =>
    copy_row W1 ty g l (l + m + (n - h) - l) dc vb 0 m vc ys _ G hg1 hv1 (by rw [hyl]; simp only [Nat.min_def]; split <;> omega) (fun j v hj => by rw [Nat.zero_add]; exact hy j v hj) (by rw [size_setMany]; omega) h1y
  have HFIN : Hid ((W1.setCells g l ys).ownsRow B 66 1 (.slice (some ⟨g, 0, none⟩) (l + m + (n - h)) cap) (l + m + (n - h)) (xs.take l ++ ys ++ xs.drop h) ∧ W.grownBy (W1.setCells g l ys) (some g)) := by
    refine ⟨own_of_row (heap_setCells g 66 (0, 0) ys l W1 _ hg1) hBg (by rw [size_setMany, size_setMany, hF]) (by omega) hml (by simp; omega) (fun k hk => ?_), hgr1.trans (grown_setCells g ys l W1)⟩
    rw [setMany_get? _ _ _ _ (by rw [size_setMany]; omega), setMany_get? _ _ _ _ (by rw [hdl]; omega), spliced_get? xs ys l h k (by omega), hyl, hdl]
    by_cases c1 : k < l
    · rw [if_neg (by omega), if_neg (by omega), if_pos c1, hx k (by omega)]
    · by_cases c2 : k < l + m
      · rw [if_pos (by omega), if_neg c1, if_pos c2]
      · rw [if_neg (by omega), if_pos (by omega), if_neg c1, if_neg c2, List.getElem?_drop]
        congr 1; omega
  rw [← hW1] at hcp1
  clear hg1 hv1 hgr1 hW1 hg hv hx hy h1x h1y hX hgX hvX hgr0 hov
  have hb1 : (0 : Int) ≤ (l : Int) + (m : Int) := by omega
  have htn : ((l : Int) + (m : Int)).toNat = l + m := by omega
  have hb2 : ¬ (cap = l + m) := by omega
  have hb3 : ¬ (cap = h) := by omega
  have hb4 : ¬ (cap = l) := by omega
  have hb5 : (l : Int) + (m : Int) ≤ (l : Int) + (m : Int) + ((n - h : Nat) : Int) := by omega
  have hb6 : (0 : Int) ≤ ((n - h : Nat) : Int) := by omega
  have hb7 : l + m + (n - h) - (l + m) = n - h := by omega
  go_wp2_with (simp only [hovX])
  go_region_law_o (refine step_copy_runI rfl _ _ 58 58 rfl _ _ (by simp [Act.eval, Act.put]) (by simp [Act.eval, Act.put]) (hcp1 _ _ _) ?_)
  go_wp2_with (at_builtin; refine wpList_copy_runI _ rfl _ _ 58 58 rfl _ _ rfl rfl (hcp2 _ _) ?_)
  go_ret
  exact ⟨_, rfl, HFIN.out.1, HFIN.out.2⟩
end Go.Proofs.Qxb6615018a
