/-
  DERIVED. slices.Insert at a slice of blocks.
-/
import Derived.Test.Qxb6615018aRow
import Derived.Test.Qxb6615018aRuns
import Derived.Shelf.Spec.SlicesInsert
import Derived.Deep.RegionLaw
import Derived.Lib.AppendZerosOnto
namespace Go.Proofs.Qxb6615018a
open Go.RowKit Go.Sort

theorem sz66 : (Try.prog.info? 66).map (·.size) = some 1 := by
  obtain ⟨i0, h0, h1, h2, h3⟩ := info_parts Try.info66
  rw [h0]; simp [h2]

theorem shape_of {W : World} {b : Nat} {F : Array Value} {t : TypeId} (h : W.heap[b]? = some (.cells F t (0, 0))) : W.shape? b = some (t, F.size) := by
  simp [World.shape?, h]

/-- Two slices of blocks in two rows do not overlap. -/
theorem overlaps_no (W : World) (a b oa ob la ca lb cb : Nat) (F G : Array Value) (ha : W.heap[a]? = some (.cells F 66 (0, 0))) (hb : W.heap[b]? = some (.cells G 66 (0, 0))) (hne : a ≠ b) (hG : G.size ≠ 0) :
    (callFunc 58 #[.slice (some ⟨a, oa, none⟩) la ca, .slice (some ⟨b, ob, none⟩) lb cb]).run Try.prog W = .ok (.value (.bool false)) W := by
  have z66 : ∀ w, (Go.sizeOf 66).run Try.prog w = .ok 1 w := fun w => by simp [go_sem]
  rw [run_callFunc_extern Try.func58 (by kernel_rfl) (by kernel_rfl) (by kernel_rfl) (e := Extern.SlicesOverlaps.overlaps #[58, 58] #[4]) (by kernel_rfl),
    Lib.run_overlaps_apart W 58 4 66 Try.underlying58 1 z66 ⟨a, oa, none⟩ ⟨b, ob, none⟩ la ca lb cb hne 66 66 F.size G.size (shape_of ha) (shape_of hb) hG (by simp [World.frozen?, ha]) (by simp [World.frozen?, ha])]
  rfl

/-- A stretch of cells laid by copy. -/
theorem copy_row (W : World) (ty : TypeId) (g o dLen dCap : Nat) (a : Nat) (ao sLen sCap : Nat) (cs : List Value) (F G : Array Value) (hg : W.heap[g]? = some (.cells F 66 (0, 0))) (ha : W.heap[a]? = some (.cells G 66 (0, 0)))
    (hn : cs.length = Nat.min sLen dLen) (hsrc : ∀ j v, cs[j]? = some v → G[ao + j]? = some v) (hF : o + cs.length ≤ F.size) (h1 : ∀ v ∈ cs, v.oneCell' = true) :
    (Builtin.copy_ #[58, 58] ty #[.slice (some ⟨g, o, none⟩) dLen dCap, .slice (some ⟨a, ao, none⟩) sLen sCap]).run Try.prog W = .ok (goInt cs.length) (W.setCells g o cs) :=
  run_copy_cells W 58 58 ty 66 g o dLen dCap ⟨a, ao, none⟩ sLen sCap cs Try.underlying58 sz66 hn
    (fun j v hj => by
      have hadd : (⟨a, ao, none⟩ : Addr).add j = ⟨a, ao + j, none⟩ := by unfold Addr.add; split <;> simp_all
      rw [hadd]; simpa [World.cell?, ha] using hsrc j v hj)
    (fun j hj => by simp [World.cell?, hg, show o + j < F.size by omega])
    (fun j _ => by simp [World.frozen?, hg]) h1

set_option maxRecDepth 100000 in
set_option maxHeartbeats 1000000 in
/-- There is room, i < len(s): in place. -/
theorem insert_room (B g cap n i vb m vc : Nat) (xs ys : List Value) (F G : Array Value) (W : World) (hi : i < n) (hm : 0 < m) (hroom : n + m ≤ cap) (hcap : cap ≤ 9223372036854775807) (hne : vb ≠ g) (hBg : B ≤ g)
    (hg : W.heap[g]? = some (.cells F 66 (0, 0))) (hv : W.heap[vb]? = some (.cells G 66 (0, 0))) (hF : F.size = cap) (hxl : xs.length = n) (hyl : ys.length = m) (hx : ∀ k : Nat, k < n → F[k]? = xs[k]?) (hy : ∀ (j : Nat) v, ys[j]? = some v → G[j]? = some v)
    (h1x : ∀ v ∈ xs, v.oneCell' = true) (h1y : ∀ v ∈ ys, v.oneCell' = true) (hml : cap ≤ maxLen) :
    Calls Try.prog 57 #[.slice (some ⟨g, 0, none⟩) n cap, .int .i64 i, .slice (some ⟨vb, 0, none⟩) m vc] W fun e w' => ∃ v', e = .returned v' ∧ w'.ownsRow B 66 1 v' (n + m) (xs.take i ++ ys ++ xs.drop i) ∧ W.grownBy w' (some g) := by
  have mixed : Try.prog.follows .mixedOrders = true := by kernel_rfl
  have hz1 : ¬ ((m : Int) = 0) := by omega
  have hz2 : ¬ ((i : Int) = (n : Int)) := by omega
  have hov : ∀ lb cb, (callFunc 58 #[.slice (some ⟨vb, 0, none⟩) m vc, .slice (some ⟨g, i + m, none⟩) lb cb]).run Try.prog W = .ok (.value (.bool false)) W := fun lb cb => overlaps_no W vb g 0 (i + m) m vc lb cb G F hv hg hne (by omega)
  have hdl : (xs.drop i).length = n - i := by rw [List.length_drop, hxl]
  have hw1 : IntKind.i64.wrap ((i : Int) + (m : Int)) = (i : Int) + (m : Int) := by rw [IntKind.wrap_i64]; omega
  have hb1 : (0 : Int) ≤ (i : Int) + (m : Int) := by omega
  have hin : i ≤ n := by omega
  have htn : ((i : Int) + (m : Int)).toNat = i + m := by omega
  have hb2 : ¬ (cap = i + m) := by omega
  have hb3 : (i : Int) ≤ (n : Int) + (m : Int) := by omega
  have hb4 : ¬ (cap = i) := by omega
  have hcp1 : ∀ ty dc sc, (Builtin.copy_ #[58, 58] ty #[.slice (some ⟨g, i + m, none⟩) (n + m - (i + m)) dc, .slice (some ⟨g, i, none⟩) (n + m - i) sc]).run Try.prog W.drew = .ok (goInt (xs.drop i).length) (W.drew.setCells g (i + m) (xs.drop i)) := fun ty dc sc =>
    copy_row W.drew ty g (i + m) (n + m - (i + m)) dc g i (n + m - i) sc (xs.drop i) F F hg hg (by rw [hdl]; simp only [Nat.min_def]; split <;> omega)
      (fun j v hj => by rw [List.getElem?_drop] at hj; rw [hx (i + j) (by have := (List.getElem?_eq_some_iff.1 hj).1; omega)]; exact hj) (by rw [hdl]; omega) (fun v hv => h1x v (List.mem_of_mem_drop hv))
  obtain ⟨W1, hW1⟩ : ∃ W1, W1 = W.drew.setCells g (i + m) (xs.drop i) := ⟨_, rfl⟩
  have hg1 : W1.heap[g]? = some (.cells (setMany F (i + m) (xs.drop i)) 66 (0, 0)) := by rw [hW1]; exact heap_setCells g 66 (0, 0) _ _ W.drew F hg
  have hgr1 : W.grownBy W1 (some g) := by
    have := grown_setCells g (xs.drop i) (i + m) W.drew
    rw [hW1]
    exact ⟨this.os, this.tape, this.output, this.size, this.block⟩
  have hv1 : W1.heap[vb]? = some (.cells G 66 (0, 0)) := (hgr1.block vb (Array.getElem?_eq_some_iff.1 hv).1 (fun e => hne (Option.some.inj e))).trans hv
  have hcp2 : ∀ ty dc, (Builtin.copy_ #[58, 58] ty #[.slice (some ⟨g, i, none⟩) (n + m - i) dc, .slice (some ⟨vb, 0, none⟩) m vc]).run Try.prog W1 = .ok (goInt ys.length) (W1.setCells g i ys) := fun ty dc =>
    copy_row W1 ty g i (n + m - i) dc vb 0 m vc ys _ G hg1 hv1 (by rw [hyl]; simp only [Nat.min_def]; split <;> omega) (fun j v hj => by rw [Nat.zero_add]; exact hy j v hj) (by rw [size_setMany]; omega) h1y
  have HFIN : Hid ((W1.setCells g i ys).ownsRow B 66 1 (.slice (some ⟨g, 0, none⟩) (n + m) cap) (n + m) (xs.take i ++ ys ++ xs.drop i) ∧ W.grownBy (W1.setCells g i ys) (some g)) := by
    refine ⟨own_of_row (heap_setCells g 66 (0, 0) ys i W1 _ hg1) hBg (by rw [size_setMany, size_setMany, hF]) (by omega) hml (by simp; omega) (fun k hk => ?_), hgr1.trans (grown_setCells g ys i W1)⟩
    rw [setMany_get? _ _ _ _ (by rw [size_setMany]; omega), setMany_get? _ _ _ _ (by rw [hdl]; omega), spliced_get? xs ys i i k (by omega), hyl, hdl]
    by_cases c1 : k < i
    · rw [if_neg (by omega), if_neg (by omega), if_pos c1, hx k (by omega)]
    · by_cases c2 : k < i + m
      · rw [if_pos (by omega), if_neg c1, if_pos c2]
      · rw [if_neg (by omega), if_pos (by omega), if_neg c1, if_neg c2, List.getElem?_drop]
        congr 1; omega
  rw [← hW1] at hcp1
  clear hg1 hv1 hgr1 hW1 hg hv hx hy h1x h1y
  go_enter Try.func57, Try.ntmps57
  go_wp2_with (simp only [hov])
  go_region_law_o (refine step_copy_runI rfl _ _ 58 58 rfl _ _ (by simp [Act.eval, Act.put]) (by simp [Act.eval, Act.put]) (hcp1 _ _ _) ?_)
  go_wp2_with (at_builtin; refine wpList_copy_runI _ rfl _ _ 58 58 rfl _ _ rfl rfl (hcp2 _ _) ?_)
  go_ret
  exact ⟨_, rfl, HFIN.out.1, HFIN.out.2⟩

set_option maxRecDepth 100000 in
set_option maxHeartbeats 1000000 in
/-- No room, i < len(s): a new row. -/
theorem insert_grow (B g cap n i vb m vc : Nat) (xs ys : List Value) (F G : Array Value) (W : World) (hi : i < n) (hm : 0 < m) (hroom : cap < n + m) (hncap : n ≤ cap) (hL : n + m ≤ 1000000000) (hB : B ≤ W.heap.size)
    (hg : W.heap[g]? = some (.cells F 66 (0, 0))) (hv : W.heap[vb]? = some (.cells G 66 (0, 0))) (hF : F.size = cap) (hxl : xs.length = n) (hyl : ys.length = m) (hx : ∀ k : Nat, k < n → F[k]? = xs[k]?) (hy : ∀ (j : Nat) v, ys[j]? = some v → G[j]? = some v)
    (h1x : ∀ v ∈ xs, v.oneCell' = true) (h1y : ∀ v ∈ ys, v.oneCell' = true) :
    Calls Try.prog 57 #[.slice (some ⟨g, 0, none⟩) n cap, .int .i64 i, .slice (some ⟨vb, 0, none⟩) m vc] W fun e w' => ∃ v', e = .returned v' ∧ w'.ownsRow B 66 1 v' (n + m) (xs.take i ++ ys ++ xs.drop i) ∧ W.grownBy w' (some g) := by
  have mixed : Try.prog.follows .mixedOrders = true := by kernel_rfl
  obtain ⟨i0, hinf, hz0, hzs, hzb⟩ := info_parts Try.info66
  have hglt : g < W.heap.size := (Array.getElem?_eq_some_iff.1 hg).1
  have hvlt : vb < W.heap.size := (Array.getElem?_eq_some_iff.1 hv).1
  have hz1 : ¬ ((m : Int) = 0) := by omega
  have hz2 : ¬ ((i : Int) = (n : Int)) := by omega
  have hdl : (xs.drop i).length = n - i := by rw [List.length_drop, hxl]
  have hold : (Builtin.firstCells i0.size i (.slice (some ⟨g, 0, none⟩) i cap)).run Try.prog W.drew = .ok (xs.take i).toArray W.drew := by
    rw [hzs]
    refine run_firstCells_some W.drew 1 i ⟨g, 0, none⟩ i cap (xs.take i) (by simp; omega) (fun j v hj => ?_)
    have hj' : j < i := by have := (List.getElem?_eq_some_iff.1 hj).1; simp at this; omega
    have hadd : (⟨g, 0, none⟩ : Addr).add j = ⟨g, 0 + j, none⟩ := by unfold Addr.add; split <;> simp_all
    rw [hadd, Nat.zero_add]
    rw [List.getElem?_take_of_lt hj', ← hx j (by omega)] at hj
    show W.cell? _ = _
    simpa [World.cell?, hg] using hj
  have hrun0 : ∀ ty, (Builtin.append_ #[58, 3] ty #[.slice (some ⟨g, 0, none⟩) i cap, .int .i64 ((n + m - i : Nat) : Int)]).run Try.prog W = _ := fun ty =>
    Lib.run_append_grow_zeros W 58 3 ty 66 i0 _ .i64 .i64 Try.underlying58 Try.underlying3 hinf hz0 (some ⟨g, 0, none⟩) i cap (xs.take i) hold (n + m - i) (by omega) (by rw [hzs]; omega) (by omega) (by omega) (by rw [hzb]; omega) (by rw [hzb]; exact growslice_fits (by omega) (by omega))
  have c1 := grownCap_ge W (i + (n + m - i)) cap 66
  have c2 := grownCap_le_maxLen W (i + (n + m - i)) cap 66 (by unfold maxLen; omega)
  have hzc : (Value.pointer none).cells.size = 1 := rfl
  generalize grownCap W (i + (n + m - i)) cap 66 = C at hrun0 c1 c2
  obtain ⟨A, hA⟩ : ∃ A, A = (xs.take i).toArray ++ Builtin.zeroCells (Value.pointer none).cells (n + m - i) ++ Builtin.zeroCells (Value.pointer none).cells (C - (i + (n + m - i))) := ⟨_, rfl⟩
  have hAs : A.size = C := by
    rw [hA, Array.size_append, Array.size_append, size_zeroCells, size_zeroCells, hzc]
    simp; omega
  have hAx : ∀ k : Nat, k < i → A[k]? = xs[k]? := fun k hk => by
    rw [hA, Array.append_assoc, Array.getElem?_append_left (by simp; omega), List.getElem?_toArray, List.getElem?_take_of_lt hk]
  rw [← hA] at hrun0
  have hsum : i + (n + m - i) = n + m := by omega
  have hrun : ∀ ty, (Builtin.append_ #[58, 3] ty #[.slice (some ⟨g, 0, none⟩) i cap, .int .i64 ((n : Int) + (m : Int) - (i : Int))]).run Try.prog W = .ok (.slice (some ⟨W.heap.size, 0, none⟩) (n + m) C) (W.drew.alloc (.cells A 66)) := fun ty => by
    have := hrun0 ty
    rw [hsum, show ((n + m - i : Nat) : Int) = (n : Int) + (m : Int) - (i : Int) from by omega] at this
    exact this
  rw [hsum] at c1
  obtain ⟨W1, hW1⟩ : ∃ W1, W1 = W.drew.alloc (.cells A 66) := ⟨_, rfl⟩
  have hh1 : W1.heap[W.heap.size]? = some (.cells A 66 (0, 0)) := by rw [hW1]; exact heap_alloc_last W.drew _
  have hb1 : Below W.heap.size W W1 := by rw [hW1]; exact ((Gr.refl W).drew).below.alloc (Nat.le_refl _) _
  have hg1 : W1.heap[g]? = some (.cells F 66 (0, 0)) := (hb1.block g hglt).trans hg
  have hv1 : W1.heap[vb]? = some (.cells G 66 (0, 0)) := (hb1.block vb hvlt).trans hv
  have hcp1 : ∀ ty dc, (Builtin.copy_ #[58, 58] ty #[.slice (some ⟨W.heap.size, i, none⟩) (n + m - i) dc, .slice (some ⟨vb, 0, none⟩) m vc]).run Try.prog W1 = .ok (goInt ys.length) (W1.setCells W.heap.size i ys) := fun ty dc =>
    copy_row W1 ty W.heap.size i (n + m - i) dc vb 0 m vc ys A G hh1 hv1 (by rw [hyl]; simp only [Nat.min_def]; split <;> omega) (fun j v hj => by rw [Nat.zero_add]; exact hy j v hj) (by omega) h1y
  obtain ⟨W2, hW2⟩ : ∃ W2, W2 = W1.setCells W.heap.size i ys := ⟨_, rfl⟩
  have hh2 : W2.heap[W.heap.size]? = some (.cells (setMany A i ys) 66 (0, 0)) := by rw [hW2]; exact heap_setCells _ 66 (0, 0) _ _ W1 A hh1
  have hgr2 : W1.grownBy W2 (some W.heap.size) := by rw [hW2]; exact grown_setCells _ _ _ _
  have hg2 : W2.heap[g]? = some (.cells F 66 (0, 0)) := (hgr2.block g (by have := hb1.size; omega) (fun e => by have := Option.some.inj e; omega)).trans hg1
  have hcp2 : ∀ ty dc sc, (Builtin.copy_ #[58, 58] ty #[.slice (some ⟨W.heap.size, i + m, none⟩) (n + m - (i + m)) dc, .slice (some ⟨g, i, none⟩) (n - i) sc]).run Try.prog W2.drew = .ok (goInt (xs.drop i).length) (W2.drew.setCells W.heap.size (i + m) (xs.drop i)) := fun ty dc sc =>
    copy_row W2.drew ty W.heap.size (i + m) (n + m - (i + m)) dc g i (n - i) sc (xs.drop i) (setMany A i ys) F hh2 hg2 (by rw [hdl]; simp only [Nat.min_def]; split <;> omega)
      (fun j v hj => by rw [List.getElem?_drop] at hj; rw [hx (i + j) (by have := (List.getElem?_eq_some_iff.1 hj).1; omega)]; exact hj) (by rw [hdl, size_setMany]; omega) (fun v hv => h1x v (List.mem_of_mem_drop hv))
  have HFIN : Hid ((W2.drew.setCells W.heap.size (i + m) (xs.drop i)).ownsRow B 66 1 (.slice (some ⟨W.heap.size, 0, none⟩) (n + m) C) (n + m) (xs.take i ++ ys ++ xs.drop i) ∧ W.grownBy (W2.drew.setCells W.heap.size (i + m) (xs.drop i)) (some g)) := by
    refine ⟨own_of_row (heap_setCells _ 66 (0, 0) (xs.drop i) (i + m) W2.drew _ hh2) hB (by rw [size_setMany, size_setMany, hAs]) (by omega) c2 (by simp; omega) (fun k hk => ?_), ?_⟩
    · rw [setMany_get? _ _ _ _ (by rw [size_setMany]; omega), setMany_get? _ _ _ _ (by omega), spliced_get? xs ys i i k (by omega), hyl, hdl]
      by_cases d1 : k < i
      · rw [if_neg (by omega), if_neg (by omega), if_pos d1, hAx k d1]
      · by_cases d2 : k < i + m
        · rw [if_neg (by omega), if_pos (by omega), if_neg d1, if_pos d2]
        · rw [if_pos (by omega), if_neg d1, if_neg d2, List.getElem?_drop]
          congr 1; omega
    · have h3 := grown_setCells W.heap.size (xs.drop i) (i + m) W2.drew
      refine ⟨h3.os.trans (hgr2.os.trans hb1.os), h3.tape.trans (hgr2.tape.trans hb1.tape), h3.output.trans (hgr2.output.trans hb1.output), Nat.le_trans hb1.size (Nat.le_trans hgr2.size h3.size), fun k hk _ => ?_⟩
      rw [h3.block k (show k < W2.heap.size by have := hb1.size; have := hgr2.size; omega) (fun e => by have := Option.some.inj e; omega)]
      exact (hgr2.block k (by have := hb1.size; omega) (fun e => by have := Option.some.inj e; omega)).trans (hb1.block k hk)
  have hw0 : IntKind.i64.wrap ((n : Int) + (m : Int)) = (n : Int) + (m : Int) := by rw [IntKind.wrap_i64]; omega
  have hw1 : IntKind.i64.wrap ((i : Int) + (m : Int)) = (i : Int) + (m : Int) := by rw [IntKind.wrap_i64]; omega
  have hb1' : (0 : Int) ≤ (i : Int) + (m : Int) := by omega
  have htn : ((i : Int) + (m : Int)).toNat = i + m := by omega
  have hb2 : ¬ (C = i + m) := by omega
  have hb4 : ¬ (C = i) := by omega
  have hb5 : ¬ (cap = i) := by omega
  have hin : i ≤ n := by omega
  rw [← hW1] at hrun
  rw [← hW2] at hcp1
  have HRUN : Hid (∀ ty, (Builtin.append_ #[58, 3] ty #[.slice (some ⟨g, 0, none⟩) i cap, .int .i64 ((n : Int) + (m : Int) - (i : Int))]).run Try.prog W = .ok (.slice (some ⟨W.heap.size, 0, none⟩) (n + m) C) W1) := hrun
  have HC1 : Hid (∀ ty dc, (Builtin.copy_ #[58, 58] ty #[.slice (some ⟨W.heap.size, i, none⟩) (n + m - i) dc, .slice (some ⟨vb, 0, none⟩) m vc]).run Try.prog W1 = .ok (goInt ys.length) W2) := hcp1
  clear hrun hrun0 hcp1 hold hA hAs hAx hW1 hW2 hh1 hb1 hg1 hv1 hh2 hgr2 hg2 hg hv hx hy h1x h1y hz0
  go_enter Try.func57, Try.ntmps57
  go_upto_region 10 with (at_builtin; refine Lib.wpList_append_run _ rfl (.tmp 34) (.tmp 39) 58 3 rfl _ _ rfl rfl _ _ (HRUN.out _) ?_)
  have hcp1 := HC1.out
  go_wp2_with (at_builtin; refine wpList_copy_runI _ rfl _ _ 58 58 rfl _ _ rfl rfl (hcp1 _ _) ?_)
  go_region_law_o (refine step_copy_runI rfl _ _ 58 58 rfl _ _ (by simp [Act.eval, Act.put]) (by simp [Act.eval, Act.put]) (hcp2 _ _ _) ?_)
  go_wp2
  go_ret
  exact ⟨_, rfl, HFIN.out.1, HFIN.out.2⟩
end Go.Proofs.Qxb6615018a
