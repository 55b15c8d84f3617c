/-
  DERIVED. stand: one cursor more, or one number higher.
-/
import Derived.Test.Qxb6615634aLog
namespace Go.Proofs.Qxb6615634a
open Go.RowKit Go.Sort

/-- What the cursors say: each name's number. -/
def ab (S : List Cu) : List (Id × UInt64) := S.map (fun c => (c.id, c.num))
/-- A name with a number more. -/
def upd (T : List (Id × UInt64)) (id : Id) (n : UInt64) : List (Id × UInt64) :=
  if id ∈ T.map Prod.fst then T.map (fun e => if e.1 = id then (e.1, if e.2 < n then n else e.2) else e) else T ++ [(id, n)]

theorem ab_ids (S : List Cu) : (ab S).map Prod.fst = S.map Cu.id := by simp [ab, Function.comp_def]

theorem LogAt.nd {w : World} {L : Lg} (h : LogAt w L) : (L.S.map Cu.id).Nodup := by
  obtain ⟨As, h1, h2, _, _⟩ := h.maps
  have := ((h1.map Prod.fst).nodup_iff).2 h2
  simpa [idp, Function.comp_def] using this

theorem upd_hit (S : List Cu) (k : Nat) (hk : k < S.length) (n : UInt64) (hn : S[k].num < n) (nd : (S.map Cu.id).Nodup) : ab (S.set k { S[k] with num := n }) = upd (ab S) S[k].id n := by
  have hm : S[k].id ∈ (ab S).map Prod.fst := by rw [ab_ids]; exact List.mem_map.2 ⟨_, List.getElem_mem hk, rfl⟩
  unfold upd
  rw [if_pos hm]
  apply List.ext_getElem
  · simp [ab]
  · intro j h1 h2
    have hj : j < S.length := by simpa [ab] using h1
    simp only [ab, List.getElem_map, List.getElem_set]
    by_cases e : k = j
    · subst e
      rw [if_pos rfl, if_pos rfl, if_pos hn]
    · rw [if_neg e]
      have hne : ¬ (S[j].id = S[k].id) := fun e' => by
        have := List.pairwise_iff_getElem.1 nd
        rcases Nat.lt_or_gt_of_ne e with hlt | hlt
        · exact this k j (by simpa using hk) (by simpa using hj) hlt (by simpa using e'.symm)
        · exact this j k (by simpa using hj) (by simpa using hk) hlt (by simpa using e')
      rw [if_neg hne]
theorem upd_same (S : List Cu) (k : Nat) (hk : k < S.length) (n : UInt64) (hn : ¬ S[k].num < n) (nd : (S.map Cu.id).Nodup) : upd (ab S) S[k].id n = ab S := by
  have hm : S[k].id ∈ (ab S).map Prod.fst := by rw [ab_ids]; exact List.mem_map.2 ⟨_, List.getElem_mem hk, rfl⟩
  unfold upd
  rw [if_pos hm]
  apply List.ext_getElem
  · simp [ab]
  · intro j h1 h2
    have hj : j < S.length := by simpa [ab] using h1
    simp only [ab, List.getElem_map]
    by_cases e : S[j].id = S[k].id
    · have ejk : j = k := by
        rcases Nat.lt_trichotomy j k with hlt | he | hlt
        · exact absurd (by rw [List.getElem_map, List.getElem_map]; exact e) (List.pairwise_iff_getElem.1 nd j k (by simpa using hj) (by simpa using hk) hlt)
        · exact he
        · exact absurd (by rw [List.getElem_map, List.getElem_map]; exact e.symm) (List.pairwise_iff_getElem.1 nd k j (by simpa using hk) (by simpa using hj) hlt)
      subst ejk
      rw [if_pos rfl, if_neg hn]
    · rw [if_neg e]
theorem upd_miss (S : List Cu) (c : Cu) (hn : c.id ∉ S.map Cu.id) : ab (S ++ [c]) = upd (ab S) c.id c.num := by
  unfold upd
  rw [ab_ids, if_neg hn]
  simp [ab]

/-- What stand leaves. -/
def Stood (w : World) (L : Lg) (id : Id) (n : UInt64) (w' : World) : Prop :=
  ∃ L' : Lg, L'.lb = L.lb ∧ L'.pm = L.pm ∧ L'.am = L.am ∧ LogAt w' L' ∧ (ab L'.S).Perm (upd (ab L.S) id n) ∧ Only L.foot w w' ∧ ∀ b, L'.foot b → L.foot b ∨ w.heap.size ≤ b

theorem Stood.same {w w' : World} {L : Lg} {id : Id} {n : UInt64} (h : LogAt w L) (hb : Below w.heap.size w w') (he : upd (ab L.S) id n = ab L.S) : Stood w L id n w' :=
  ⟨L, rfl, rfl, rfl, h.kept (fun b hf => hb.block b (h.lt b hf)), by rw [he], Only.below hb, fun b hf => .inl hf⟩

/-- The number set: the cursor's own block alone. -/
theorem HeapAt.num {w : World} {v : Value} {S : List Cu} (h : HeapAt w 0 v S) (k : Nat) (hk : k < S.length) (n : UInt64) : HeapAt (w.setCell ⟨S[k].p, 32, none⟩ (.int .u64 (n.toNat : Int))) 0 v (S.set k { S[k] with num := n }) := by
  have hp : ∀ j (hj : j < S.length), j ≠ k → S[j].p ≠ S[k].p := fun j hj hne e => by
    rcases Nat.lt_or_gt_of_ne hne with hlt | hlt
    · exact List.pairwise_iff_getElem.1 h.nd j k (by simpa using hj) (by simpa using hk) hlt (by simpa using e)
    · exact List.pairwise_iff_getElem.1 h.nd k j (by simpa using hk) (by simpa using hj) hlt (by simpa using e.symm)
  have hmap : (S.set k { S[k] with num := n }).map ptrC = S.map ptrC := by
    apply List.ext_getElem
    · simp
    · intro j h1 h2
      simp only [List.getElem_map, List.getElem_set]
      split
      · rename_i e; subst e; rfl
      · rfl
  have hmap2 : (S.set k { S[k] with num := n }).map Cu.p = S.map Cu.p := by
    apply List.ext_getElem
    · simp
    · intro j h1 h2
      simp only [List.getElem_map, List.getElem_set]
      split
      · rename_i e; subst e; rfl
      · rfl
  refine ⟨?_, fun j hj => ?_, by rw [hmap2]; exact h.nd⟩
  · rw [hmap, List.length_set]
    refine ownsRow_block h.row (fun g hg => heap_setCell_other _ _ _ _ _ (fun e => ?_))
    rcases h.row.2 with ⟨e2, _⟩ | ⟨g', cap, cur, e2, _, h2, _⟩
    · rw [e2] at hg; cases hg
    · rw [e2] at hg
      simp only [Value.ownBlock, Option.some.injEq] at hg
      rw [hg, e] at h2
      exact absurd (cells_ty h2 (h.cur k hk)) (by decide)
  · rw [List.length_set] at hj
    by_cases e : k = j
    · subst e
      rw [List.getElem_set_self]
      show (w.setCell ⟨S[k].p, 32, none⟩ _).heap[S[k].p]? = _
      rw [heap_setCell w S[k].p 32 75 _ _ (h.cur k hk), List.setIfInBounds_toArray, encC_num]
    · rw [List.getElem_set_ne e, heap_setCell_other _ _ _ _ _ (hp j hj (Ne.symm e))]
      exact h.cur j hj

/-- The log with one number set and its heap put right. -/
theorem LogAt.fixed {w w2 w3 : World} {L : Lg} (h : LogAt w L) (k : Nat) (hk : k < L.S.length) (n : UInt64) (hn : L.S[k].num < n) (h2 : Only L.foot w w2) (hm : w2.heap[L.pm]? = w.heap[L.pm]? ∧ w2.heap[L.am]? = w.heap[L.am]?) {S' : List Cu} (hS : St w2 0 L.lb L.v (.map (some L.pm)) (.map (some L.am)) (L.S.set k { L.S[k] with num := n }) S' w3) : Stood w L L.S[k].id n w3 := by
  have hidp : (L.S.set k { L.S[k] with num := n }).map idp = L.S.map idp := by
    apply List.ext_getElem
    · simp
    · intro j h1 h2
      simp only [List.getElem_map, List.getElem_set]
      split
      · rename_i e; subst e; rfl
      · rfl
  have hpm : (L.S.set k { L.S[k] with num := n }).map Cu.p = L.S.map Cu.p := by
    have := congrArg (List.map Prod.snd) hidp
    simpa [idp, Function.comp_def] using this
  have hown : ∀ b, Own L.v (L.S.set k { L.S[k] with num := n }) b → Own L.v L.S b := fun b hb => by
    rcases hb with hb | hb
    · exact .inl hb
    · exact .inr (by rw [hpm] at hb; exact hb)
  obtain ⟨As, h3, h4, h5, h6⟩ := h.maps
  have hmapblk : ∀ r E, MapI w r E → w2.heap[r]? = w.heap[r]? → MapI w3 r E := fun r E hr he => by
    have hr2 : MapI w2 r E := hr.block he
    refine hr2.block (hS.only.block r hr2.lt (fun hb => ?_))
    obtain ⟨es, cl, hes, _⟩ := hr2
    rcases hb with hb | hb
    · rcases hS.heap.row.2 with ⟨e2, _⟩ | ⟨g', cap, cur, e2, _, _, _⟩
      · rw [e2] at hb; cases hb
      · have h0 := h.heap.row.2
        rcases h0 with ⟨e3, _⟩ | ⟨g0, cap0, cur0, e3, _, hg0, _⟩
        · rw [e3] at hb; cases hb
        · rw [e3] at hb
          simp only [Value.ownBlock, Option.some.injEq] at hb
          obtain ⟨es0, cl0, hes0, _⟩ := hr
          rw [← hb, hg0] at hes0; cases hes0
    · rw [hpm] at hb
      obtain ⟨c, hc, rfl⟩ := List.mem_map.1 hb
      obtain ⟨j, hj, rfl⟩ := List.getElem_of_mem hc
      obtain ⟨es0, cl0, hes0, _⟩ := hr
      rw [h.heap.cur j hj] at hes0; cases hes0
  refine ⟨{ L with S := S' }, rfl, rfl, rfl, ⟨hS.var, hS.heap, ⟨As, ?_, h4, hmapblk _ _ h5 hm.1, hmapblk _ _ h6 hm.2⟩, h.ne⟩, ?_, ?_, ?_⟩
  · have := hS.perm.map idp
    rw [hidp] at this
    exact this.trans h3
  · have := hS.perm.map (fun c => (c.id, c.num))
    have e := upd_hit L.S k hk n hn h.nd
    rw [← e]
    exact this
  · refine h2.trans (hS.only.mono fun b _ hb => .inr (.inr (.inr (hown b hb))))
  · intro b hb
    rcases hb with rfl | rfl | rfl | hb
    · exact .inl (.inl rfl)
    · exact .inl (.inr (.inl rfl))
    · exact .inl (.inr (.inr (.inl rfl)))
    · refine .inl (.inr (.inr (.inr ?_)))
      rcases hb with hb | hb
      · exact .inl hb
      · have := ((hS.perm.map Cu.p).mem_iff).1 hb
        exact .inr (by rw [hpm] at this; exact this)
set_option maxRecDepth 100000 in
set_option maxHeartbeats 1000000 in
/-- stand, where a cursor stands there. -/
theorem stand_hit (L : Lg) (k : Nat) (hk : k < L.S.length) (n : UInt64) (w : World) (h : LogAt w L) (hL : L.S.length ≤ 100000) :
    Calls Try.prog 30 #[.pointer (some ⟨L.lb, 0, none⟩), .agg (encI L.S[k].id).toArray, .int .u64 (n.toNat : Int)] w fun e w' => e = .returned (.tuple #[]) ∧ Stood w L L.S[k].id n w' := by
  obtain ⟨k32, k66, ⟨z22, z27, z38, z55, n32, n66⟩, HK⟩ := sz_ex
  clear z22 z38 z55 n66
  have mixed : Try.prog.follows .mixedOrders = true := by kernel_rfl
  obtain ⟨w1, hw1⟩ : ∃ w1, w1 = w.alloc (.cells (encI L.S[k].id).toArray 27) := ⟨_, rfl⟩
  have hb1 : Below w.heap.size w w1 := by rw [hw1]; exact (Below.refl _ _).alloc (Nat.le_refl _) _
  have hbx : w1.heap[w.heap.size]? = some (.cells (encI L.S[k].id).toArray 27 (0, 0)) := by rw [hw1]; exact heap_alloc_last _ _
  have h1 : LogAt w1 L := h.kept (fun b hf => hb1.block b (h.lt b hf))
  obtain ⟨lb, pm, am, v, S⟩ := L
  simp only at hk hL
  obtain ⟨ck, hck⟩ : ∃ ck, ck = S[k] := ⟨_, rfl⟩
  have hcur := h1.heap.cur k hk
  have hlk := fun q => ((h1.kept (w' := w1.drewN q) (fun _ _ => rfl)).look_yes S[k] (List.getElem_mem hk)).1
  have hld := fun q => ld_block (w1.drewN q) w.heap.size 0 (encI S[k].id).toArray 27 (0, 0) (encI S[k].id) k32 hbx (by rw [encI_length, HK.out.1]) (by simp)
  rw [← hck] at hcur hlk hld hw1 hbx ⊢
  have cA : w1.cell? ⟨lb, 2, none⟩ = some (.map (some am)) := by simp [World.cell?, h1.blk]
  have c32 : w1.cell? ⟨ck.p, 32, none⟩ = some (.int .u64 (ck.num.toNat : Int)) := (cell_of hcur (by rw [List.getElem?_toArray]; exact encC_32 ck k)).1
  have f32 : w1.frozen? ⟨ck.p, 32, none⟩ = false := (cell_of hcur (by rw [List.getElem?_toArray]; exact encC_32 ck k)).2
  have lk : ∀ q, Sem.run Try.prog (Instr.lookup 71 (.map (some am)) (.agg (encI ck.id).toArray) false) (w1.drewN q) = .ok (.pointer (some ⟨ck.p, 0, none⟩)) (w1.drewN q) := hlk
  have HH : Hid (LogAt w ⟨lb, pm, am, v, S⟩ ∧ LogAt w1 ⟨lb, pm, am, v, S⟩ ∧ Below w.heap.size w w1 ∧ ck = S[k]) := ⟨h, h1, hb1, hck⟩
  clear h h1 hb1 hck hcur hlk hbx
  by_cases hlt : ck.num < n
  · have hlt' : (ck.num.toNat : Int) < (n.toNat : Int) := by have := UInt64.lt_iff_toNat_lt.1 hlt; omega
    go_enter Try.func30, Try.ntmps30
    go_upto_region 1 with fail
    rw [← hw1]
    clear hw1
    go_quiet (fail)
    obtain ⟨wx, hwx⟩ : ∃ wx, wx = w1.drewN nq := ⟨_, rfl⟩
    rw [← hwx]
    have d32 : wx.cell? ⟨ck.p, 32, none⟩ = some (.int .u64 (ck.num.toNat : Int)) := by rw [hwx]; exact c32
    have e32 : wx.frozen? ⟨ck.p, 32, none⟩ = false := by rw [hwx]; exact f32
    obtain ⟨W2, hW2⟩ : ∃ W2, W2 = wx.setCell ⟨ck.p, 32, none⟩ (.int .u64 (n.toNat : Int)) := ⟨_, rfl⟩
    have hHx : LogAt wx ⟨lb, pm, am, v, S⟩ := by rw [hwx]; exact HH.out.2.1.kept (fun _ _ => rfl)
    have hm2 : ck.p ∈ S.map Cu.p := by rw [HH.out.2.2.2]; exact List.mem_map.2 ⟨_, List.getElem_mem hk, rfl⟩
    have hO2 : Only (Lg.foot ⟨lb, pm, am, v, S⟩) w W2 := by
      have o1 : Only (Lg.foot ⟨lb, pm, am, v, S⟩) w wx := by rw [hwx]; exact (Only.below HH.out.2.2.1).drewN nq
      rw [hW2]
      exact o1.trans (only_setCell _ wx ck.p 32 _ (.inr (.inr (.inr (.inr hm2)))))
    have hne : ∀ b : Nat, (∃ F t, wx.heap[b]? = some (Obj.cells F t (0, 0)) ∧ t ≠ 75) ∨ (∃ es cl, wx.heap[b]? = some (Obj.map es cl)) → W2.heap[b]? = wx.heap[b]? := fun b hb => by
      rw [hW2]
      refine heap_setCell_other _ _ _ _ _ (fun e => ?_)
      have hcu := hHx.heap.cur k hk
      simp only at hcu
      rw [← HH.out.2.2.2, ← e] at hcu
      rcases hb with ⟨F, t, h1, h2⟩ | ⟨es, cl, h1⟩
      · exact h2 (cells_ty h1 hcu)
      · rw [hcu] at h1; cases h1
    have hblk2 : W2.heap[lb]? = some (.cells #[.map (some pm), v, .map (some am)] 73 (0, 0)) := by rw [hne lb (.inl ⟨_, _, hHx.blk, by decide⟩)]; exact hHx.blk
    have hheap2 : HeapAt W2 0 v (S.set k { S[k] with num := n }) := by
      rw [hW2, HH.out.2.2.2]
      exact hHx.heap.num k hk n
    have hmaps : W2.heap[pm]? = w.heap[pm]? ∧ W2.heap[am]? = w.heap[am]? := by
      obtain ⟨As, _, _, h5, h6⟩ := hHx.maps
      have e1 : ∀ b : Nat, wx.heap[b]? = w1.heap[b]? := fun b => by rw [hwx]; rfl
      obtain ⟨es5, cl5, h5, _⟩ := h5
      obtain ⟨es6, cl6, h6, _⟩ := h6
      have l1 := HH.out.1.lt pm (.inr (.inl rfl))
      have l2 := HH.out.1.lt am (.inr (.inr (.inl rfl)))
      exact ⟨by rw [hne pm (.inr ⟨_, _, h5⟩), e1, HH.out.2.2.1.block pm l1], by rw [hne am (.inr ⟨_, _, h6⟩), e1, HH.out.2.2.1.block am l2]⟩
    have c33 : W2.cell? ⟨ck.p, 33, none⟩ = some (.int .i64 (k : Int)) := by
      have hcu := hheap2.cur k (by simpa using hk)
      rw [List.getElem_set_self] at hcu
      have hcu' : W2.heap[ck.p]? = some (.cells (encC { S[k] with num := n } k).toArray 75 (0, 0)) := by rw [HH.out.2.2.2]; exact hcu
      exact (cell_of hcu' (by rw [List.getElem?_toArray]; exact encC_33 _ k)).1
    have CF : Hid (∀ q, Calls Try.prog 32 #[.iface 79 (.pointer (some ⟨lb, 1, none⟩)), .int .i64 k] (W2.drewN q) fun e w' => e = .returned (.tuple #[]) ∧ Stood w ⟨lb, pm, am, v, S⟩ ck.id n w') := fun q => by
      refine (fix_any 0 lb v (.map (some pm)) (.map (some am)) (S.set k { S[k] with num := n }) k (W2.drewN q) hblk2 (hheap2.kept (fun _ _ => rfl)) (by simpa using hk) (by simpa using (by omega : S.length ≤ 1000000))).mono ?_
      rintro e w' ⟨rfl, S', hS⟩
      refine ⟨rfl, ?_⟩
      have hlt2 : S[k].num < n := by rw [← HH.out.2.2.2]; exact hlt
      rw [HH.out.2.2.2]
      exact HH.out.1.fixed k hk n hlt2 (hO2.drewN q) hmaps hS
    have g33 : W2.drew.cell? ⟨ck.p, 33, none⟩ = some (.int .i64 (k : Int)) := c33
    have g33' : W2.drew.drew.cell? ⟨ck.p, 33, none⟩ = some (.int .i64 (k : Int)) := c33
    clear hHx hm2 hO2 hne hblk2 hheap2 hmaps hwx cA lk hld c32 f32 c33
    go_upto_region 5 with fail
    rw [← hW2]
    clear hW2 d32 e32
    go_region_with (go_at_call 32; refine (CF.out 1).mono ?_; rintro e w5 ⟨rfl, HF⟩)
    all_goals have HF2 : Hid (Stood w ⟨lb, pm, am, v, S⟩ ck.id n w5) := HF
    all_goals clear HF
    all_goals go_wp2
    all_goals (try simp only [Exit.inBlock, Exit.then])
    all_goals refine bodyPost_ret (results_none rfl _ _ _) rfl ?_
    all_goals exact ⟨rfl, HF2.out⟩
  · have hlt' : ¬ (ck.num.toNat : Int) < (n.toNat : Int) := fun hh => hlt (UInt64.lt_iff_toNat_lt.2 (by omega))
    go_enter Try.func30, Try.ntmps30
    go_upto_region 1 with fail
    rw [← hw1]
    clear hw1
    go_quiet (fail)
    obtain ⟨wx, hwx⟩ : ∃ wx, wx = w1.drewN nq := ⟨_, rfl⟩
    rw [← hwx]
    have d32 : wx.cell? ⟨ck.p, 32, none⟩ = some (.int .u64 (ck.num.toNat : Int)) := by rw [hwx]; exact c32
    have HF : Hid (Stood w ⟨lb, pm, am, v, S⟩ ck.id n wx) := by
      rw [HH.out.2.2.2] at hlt ⊢
      refine Stood.same HH.out.1 (HH.out.2.2.1.trans ?_) (upd_same S k hk n hlt HH.out.1.nd)
      rw [hwx]
      exact ⟨rfl, rfl, rfl, Nat.le_refl _, fun _ _ => rfl⟩
    clear hwx c32 f32 cA lk hld
    go_wp2
    (try simp only [Exit.inBlock, Exit.then])
    refine bodyPost_ret (results_none rfl _ _ _) rfl ?_
    exact ⟨rfl, HF.out⟩
end Go.Proofs.Qxb6615634a
