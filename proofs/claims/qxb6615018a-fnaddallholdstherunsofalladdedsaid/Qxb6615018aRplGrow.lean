/-
  DERIVED. slices.Replace where the row must grow.
-/
import Derived.Test.Qxb6615018aClr
namespace Go.Proofs.Qxb6615018a
open Go.RowKit Go.Sort

set_option maxRecDepth 100000 in
set_option maxHeartbeats 1000000 in
/-- There is no room: a new row. -/
theorem replace_grow (B g cap n l h vb m vc : Nat) (xs ys : List Value) (F G : Array Value) (W : World) (hlh : l < h) (hhn : h < n) (hm : 0 < m) (hroom : cap < l + m + (n - h)) (hncap : n ≤ cap) (hL : n + m ≤ 1000000000) (hB : B ≤ W.heap.size)
    (hg : W.heap[g]? = some (.cells F 66 (0, 0))) (hv : W.heap[vb]? = some (.cells G 66 (0, 0))) (hxl : xs.length = n) (hyl : ys.length = m) (hx : ∀ k : Nat, k < n → F[k]? = xs[k]?) (hy : ∀ (j : Nat) v, ys[j]? = some v → G[j]? = some v)
    (h1x : ∀ v ∈ xs, v.oneCell' = true) (h1y : ∀ v ∈ ys, v.oneCell' = true) :
    Calls Try.prog 42 #[.slice (some ⟨g, 0, none⟩) n cap, .int .i64 l, .int .i64 h, .slice (some ⟨vb, 0, none⟩) m vc] W fun e w' => ∃ v', e = .returned v' ∧ w'.ownsRow B 66 1 v' (l + m + (n - h)) (xs.take l ++ ys ++ xs.drop h) ∧ W.grownBy w' (some g) := by
  have mixed : Try.prog.follows .mixedOrders = true := by kernel_rfl
  obtain ⟨i0, hinf, hz0, hzs, hzb⟩ := info_parts Try.info66
  have hglt : g < W.heap.size := (Array.getElem?_eq_some_iff.1 hg).1
  have hvlt : vb < W.heap.size := (Array.getElem?_eq_some_iff.1 hv).1
  have hdl : (xs.drop h).length = n - h := by rw [List.length_drop, hxl]
  have q1 : (0 : Int) ≤ (l : Int) := by omega
  have q2 : (l : Int) ≤ (cap : Int) := by omega
  have q3 : (h : Int) ≤ (n : Int) := by omega
  have q4 : ((l : Int) == (h : Int)) = false := by simp; omega
  have q5 : ((h : Int) == (n : Int)) = false := by simp; omega
  have w1 : IntKind.i64.wrap ((l : Int) + (m : Int)) = (l : Int) + (m : Int) := by rw [IntKind.wrap_i64]; omega
  have w2 : IntKind.i64.wrap ((l : Int) + (m : Int) + ((n - h : Nat) : Int)) = (l : Int) + (m : Int) + ((n - h : Nat) : Int) := by rw [IntKind.wrap_i64]; omega
  go_enter Try.func42, Try.ntmps42
  go_upto_region 9 with fail
  go_quiet (fail)
  obtain ⟨X, hX⟩ : ∃ X, X = W.drewN nq := ⟨_, rfl⟩
  rw [← hX]
  have hgX : X.heap[g]? = some (.cells F 66 (0, 0)) := by rw [hX]; exact hg
  have hvX : X.heap[vb]? = some (.cells G 66 (0, 0)) := by rw [hX]; exact hv
  have hsX : X.heap.size = W.heap.size := by rw [hX]; rfl
  have hgr0 : Below W.heap.size W X := by rw [hX]; exact ((Gr.refl W).drewN nq).below
  have hold : (Builtin.firstCells i0.size l (.slice (some ⟨g, 0, none⟩) l cap)).run Try.prog X.drew = .ok (xs.take l).toArray X.drew := by
    rw [hzs]
    refine run_firstCells_some X.drew 1 l ⟨g, 0, none⟩ l cap (xs.take l) (by simp; omega) (fun j v hj => ?_)
    have hj' : j < l := by have := (List.getElem?_eq_some_iff.1 hj).1; simp at this; omega
    have hadd : (⟨g, 0, none⟩ : Addr).add j = ⟨g, 0 + j, none⟩ := by unfold Addr.add; split <;> simp_all
    rw [hadd, Nat.zero_add]
    rw [List.getElem?_take_of_lt hj', ← hx j (by omega)] at hj
    show X.cell? _ = _
    simpa [World.cell?, hgX] using hj
  obtain ⟨t, ht⟩ : ∃ t, t = l + m + (n - h) := ⟨_, rfl⟩
  have hrun0 : ∀ ty, (Builtin.append_ #[58, 3] ty #[.slice (some ⟨g, 0, none⟩) l cap, .int .i64 ((t - l : Nat) : Int)]).run Try.prog X = _ := fun ty =>
    Lib.run_append_grow_zeros X 58 3 ty 66 i0 _ .i64 .i64 Try.underlying58 Try.underlying3 hinf hz0 (some ⟨g, 0, none⟩) l cap (xs.take l) hold (t - l) (by omega) (by rw [hzs]; omega) (by omega) (by omega) (by rw [hzb]; omega) (by rw [hzb]; exact growslice_fits (by omega) (by omega))
  have c1 := grownCap_ge X (l + (t - l)) cap 66
  have c2 := grownCap_le_maxLen X (l + (t - l)) cap 66 (by unfold maxLen; omega)
  have hzc : (Value.pointer none).cells.size = 1 := rfl
  generalize grownCap X (l + (t - l)) cap 66 = C at hrun0 c1 c2
  obtain ⟨A, hA⟩ : ∃ A, A = (xs.take l).toArray ++ Builtin.zeroCells (Value.pointer none).cells (t - l) ++ Builtin.zeroCells (Value.pointer none).cells (C - (l + (t - l))) := ⟨_, rfl⟩
  have hAs : A.size = C := by
    rw [hA, Array.size_append, Array.size_append, size_zeroCells, size_zeroCells, hzc]
    simp; omega
  have hAx : ∀ k : Nat, k < l → A[k]? = xs[k]? := fun k hk => by
    rw [hA, Array.append_assoc, Array.getElem?_append_left (by simp; omega), List.getElem?_toArray, List.getElem?_take_of_lt hk]
  rw [← hA] at hrun0
  have hsum : l + (t - l) = t := by omega
  have hrun : ∀ ty, (Builtin.append_ #[58, 3] ty #[.slice (some ⟨g, 0, none⟩) l cap, .int .i64 ((l : Int) + (m : Int) + ((n - h : Nat) : Int) - (l : Int))]).run Try.prog X = .ok (.slice (some ⟨X.heap.size, 0, none⟩) t C) (X.drew.alloc (.cells A 66)) := fun ty => by
    have := hrun0 ty
    rw [hsum, show ((t - l : Nat) : Int) = (l : Int) + (m : Int) + ((n - h : Nat) : Int) - (l : Int) from by omega] at this
    exact this
  rw [hsum] at c1
  obtain ⟨W1, hW1⟩ : ∃ W1, W1 = X.drew.alloc (.cells A 66) := ⟨_, rfl⟩
  have hh1 : W1.heap[X.heap.size]? = some (.cells A 66 (0, 0)) := by rw [hW1]; exact heap_alloc_last X.drew _
  have hb1 : Below X.heap.size X W1 := by rw [hW1]; exact ((Gr.refl X).drew).below.alloc (Nat.le_refl _) _
  have hg1 : W1.heap[g]? = some (.cells F 66 (0, 0)) := (hb1.block g (by omega)).trans hgX
  have hv1 : W1.heap[vb]? = some (.cells G 66 (0, 0)) := (hb1.block vb (by omega)).trans hvX
  have hcp1 : ∀ ty dc, (Builtin.copy_ #[58, 58] ty #[.slice (some ⟨X.heap.size, l, none⟩) (t - l) dc, .slice (some ⟨vb, 0, none⟩) m vc]).run Try.prog W1 = .ok (goInt ys.length) (W1.setCells X.heap.size l ys) := fun ty dc =>
    copy_row W1 ty X.heap.size l (t - l) dc vb 0 m vc ys A G hh1 hv1 (by rw [hyl]; simp only [Nat.min_def]; split <;> omega) (fun j v hj => by rw [Nat.zero_add]; exact hy j v hj) (by omega) h1y
  obtain ⟨W2, hW2⟩ : ∃ W2, W2 = W1.setCells X.heap.size l ys := ⟨_, rfl⟩
  have hh2 : W2.heap[X.heap.size]? = some (.cells (setMany A l ys) 66 (0, 0)) := by rw [hW2]; exact heap_setCells _ 66 (0, 0) _ _ W1 A hh1
  have hgr2 : W1.grownBy W2 (some X.heap.size) := by rw [hW2]; exact grown_setCells _ _ _ _
  have hg2 : W2.heap[g]? = some (.cells F 66 (0, 0)) := (hgr2.block g (by have := hb1.size; omega) (fun e => by have := Option.some.inj e; omega)).trans hg1
  have hcp2 : ∀ ty dc sc, (Builtin.copy_ #[58, 58] ty #[.slice (some ⟨X.heap.size, l + m, none⟩) (t - (l + m)) dc, .slice (some ⟨g, h, none⟩) (n - h) sc]).run Try.prog W2.drew = .ok (goInt (xs.drop h).length) (W2.drew.setCells X.heap.size (l + m) (xs.drop h)) := fun ty dc sc =>
    copy_row W2.drew ty X.heap.size (l + m) (t - (l + m)) dc g h (n - h) sc (xs.drop h) (setMany A l ys) F hh2 hg2 (by rw [hdl]; simp only [Nat.min_def]; split <;> omega)
      (fun j v hj => by rw [List.getElem?_drop] at hj; rw [hx (h + j) (by have := (List.getElem?_eq_some_iff.1 hj).1; omega)]; exact hj) (by rw [hdl, size_setMany]; omega) (fun v hv => h1x v (List.mem_of_mem_drop hv))
  have HFIN : Hid ((W2.drew.setCells X.heap.size (l + m) (xs.drop h)).ownsRow B 66 1 (.slice (some ⟨X.heap.size, 0, none⟩) t C) t (xs.take l ++ ys ++ xs.drop h) ∧ W.grownBy (W2.drew.setCells X.heap.size (l + m) (xs.drop h)) (some g)) := by
    refine ⟨own_of_row (heap_setCells _ 66 (0, 0) (xs.drop h) (l + m) W2.drew _ hh2) (by omega) (by rw [size_setMany, size_setMany, hAs]) (by omega) c2 (by simp; omega) (fun k hk => ?_), ?_⟩
    · rw [setMany_get? _ _ _ _ (by rw [size_setMany]; omega), setMany_get? _ _ _ _ (by omega), spliced_get? xs ys l h k (by omega), hyl, hdl]
      by_cases d1 : k < l
      · rw [if_neg (by omega), if_neg (by omega), if_pos d1, hAx k d1]
      · by_cases d2 : k < l + m
        · rw [if_neg (by omega), if_pos (by omega), if_neg d1, if_pos d2]
        · rw [if_pos (by omega), if_neg d1, if_neg d2, List.getElem?_drop]
          congr 1; omega
    · have h3 := grown_setCells X.heap.size (xs.drop h) (l + m) W2.drew
      refine ⟨h3.os.trans (hgr2.os.trans (hb1.os.trans hgr0.os)), h3.tape.trans (hgr2.tape.trans (hb1.tape.trans hgr0.tape)), h3.output.trans (hgr2.output.trans (hb1.output.trans hgr0.output)), Nat.le_trans hgr0.size (Nat.le_trans hb1.size (Nat.le_trans hgr2.size h3.size)), fun k hk _ => ?_⟩
      rw [h3.block k (show k < W2.heap.size by have := hb1.size; have := hgr2.size; omega) (fun e => by have := Option.some.inj e; omega)]
      exact ((hgr2.block k (by have := hb1.size; omega) (fun e => by have := Option.some.inj e; omega)).trans (hb1.block k (by omega))).trans (hgr0.block k hk)
  have w3 : IntKind.i64.wrap ((l : Int) + (m : Int) + ((n - h : Nat) : Int) - (l : Int)) = (l : Int) + (m : Int) + ((n - h : Nat) : Int) - (l : Int) := by rw [IntKind.wrap_i64]; omega
  have hb1' : (0 : Int) ≤ (l : Int) + (m : Int) := by omega
  have hgt : (cap : Int) < (l : Int) + (m : Int) + ((n - h : Nat) : Int) := by omega
  have htn : ((l : Int) + (m : Int)).toNat = l + m := by omega
  have hb2 : ¬ (C = l + m) := by omega
  have hb4 : ¬ (C = l) := by omega
  have hb5 : ¬ (cap = l) := by omega
  have hb6 : ¬ (cap = h) := by omega
  have hb7 : l ≤ t := by omega
  have hb8 : (l : Int) + (m : Int) ≤ (t : Int) := by omega
  rw [← hW1] at hrun
  rw [← hW2] at hcp1
  have HRUN : Hid (∀ ty, (Builtin.append_ #[58, 3] ty #[.slice (some ⟨g, 0, none⟩) l cap, .int .i64 ((l : Int) + (m : Int) + ((n - h : Nat) : Int) - (l : Int))]).run Try.prog X = .ok (.slice (some ⟨X.heap.size, 0, none⟩) t C) W1) := hrun
  have HC1 : Hid (∀ ty dc, (Builtin.copy_ #[58, 58] ty #[.slice (some ⟨X.heap.size, l, none⟩) (t - l) dc, .slice (some ⟨vb, 0, none⟩) m vc]).run Try.prog W1 = .ok (goInt ys.length) W2) := hcp1
  have HT : Hid (t = l + m + (n - h)) := ht
  clear hsX hrun hrun0 hcp1 hold hA hAs hAx hW1 hW2 hh1 hb1 hg1 hv1 hh2 hgr2 hg2 hg hv hx hy h1x h1y hz0 ht hX hgX hvX hgr0
  go_upto_region 12 with (at_builtin; refine Lib.wpList_append_run _ rfl (.tmp 63) (.tmp 66) 58 3 rfl _ _ rfl rfl _ _ (HRUN.out _) ?_)
  have hcp1 := HC1.out
  go_wp2_with (at_builtin; refine wpList_copy_runI _ rfl _ _ 58 58 rfl _ _ rfl rfl (hcp1 _ _) ?_)
  go_region_law_o (refine step_copy_runI rfl _ _ 58 58 rfl _ _ (by simp [Act.eval, Act.put]) (by simp [Act.eval, Act.put]) (hcp2 _ _ _) ?_)
  go_wp2
  go_ret
  rw [← HT.out]
  exact ⟨_, rfl, HFIN.out.1, HFIN.out.2⟩
end Go.Proofs.Qxb6615018a
