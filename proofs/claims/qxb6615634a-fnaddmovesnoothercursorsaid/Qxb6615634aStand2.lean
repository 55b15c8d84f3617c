/-
  DERIVED. stand, where no cursor stands yet.
-/
import Derived.Test.Qxb6615634aStand
namespace Go.Proofs.Qxb6615634a
open Go.RowKit Go.Sort

theorem wpList_build2 {P : Program} {ops : Array Oper} {rest : List Oper} {o : Oper} {a : Act} {w : World} {Q : Exit → Act → World → Prop} (hg : o.guard = none) (t : TypeId) (x y : Operand) (ho : o.op = .build t #[(0, x), (1, y)])
    (vx vy v : Value) (hx : a.eval x = vx) (hy : a.eval y = vy) (hrun : (Instr.build t #[(0, vx), (1, vy)]).run P w = .ok v w)
    (h : wpList P ops Q rest (a.put o.dst v) w) : wpList P ops Q (o :: rest) a w := by
  refine wpList_plain hg fun _ hK => ?_
  unfold Oper.wp execOp
  simp only [ho, Sem.run_bind]
  have e : (#[(0, x), (1, y)] : Array (Nat × Operand)).map (fun (i, x) => (i, a.eval x)) = #[(0, vx), (1, vy)] := by simp [hx, hy]
  rw [e, hrun]
  exact hK _ _ h

theorem list32 (l : List Value) (h : l.length = 32) : ∃ x0 x1 x2 x3 x4 x5 x6 x7 x8 x9 x10 x11 x12 x13 x14 x15 x16 x17 x18 x19 x20 x21 x22 x23 x24 x25 x26 x27 x28 x29 x30 x31, l = [x0, x1, x2, x3, x4, x5, x6, x7, x8, x9, x10, x11, x12, x13, x14, x15, x16, x17, x18, x19, x20, x21, x22, x23, x24, x25, x26, x27, x28, x29, x30, x31] := by
  match l, h with
  | [x0, x1, x2, x3, x4, x5, x6, x7, x8, x9, x10, x11, x12, x13, x14, x15, x16, x17, x18, x19, x20, x21, x22, x23, x24, x25, x26, x27, x28, x29, x30, x31], _ => exact ⟨x0, x1, x2, x3, x4, x5, x6, x7, x8, x9, x10, x11, x12, x13, x14, x15, x16, x17, x18, x19, x20, x21, x22, x23, x24, x25, x26, x27, x28, x29, x30, x31, rfl⟩
theorem build75_x (x0 x1 x2 x3 x4 x5 x6 x7 x8 x9 x10 x11 x12 x13 x14 x15 x16 x17 x18 x19 x20 x21 x22 x23 x24 x25 x26 x27 x28 x29 x30 x31 : Value) (f : Int) (w : World) :
    (Instr.build 75 #[(0, .agg #[x0, x1, x2, x3, x4, x5, x6, x7, x8, x9, x10, x11, x12, x13, x14, x15, x16, x17, x18, x19, x20, x21, x22, x23, x24, x25, x26, x27, x28, x29, x30, x31]), (1, .int .u64 f)]).run Try.prog w = .ok (.agg #[x0, x1, x2, x3, x4, x5, x6, x7, x8, x9, x10, x11, x12, x13, x14, x15, x16, x17, x18, x19, x20, x21, x22, x23, x24, x25, x26, x27, x28, x29, x30, x31, .int .u64 f, .int .i64 0]) w := by kernel_rfl
theorem build75_any (id : Id) (n : UInt64) (p : Nat) (w : World) : (Instr.build 75 #[(0, .agg (encI id).toArray), (1, .int .u64 (n.toNat : Int))]).run Try.prog w = .ok (.agg (encC ⟨id, n, p⟩ 0).toArray) w := by
  obtain ⟨x0, x1, x2, x3, x4, x5, x6, x7, x8, x9, x10, x11, x12, x13, x14, x15, x16, x17, x18, x19, x20, x21, x22, x23, x24, x25, x26, x27, x28, x29, x30, x31, h⟩ := list32 (encI id) (encI_length id)
  simp only [encC]
  rw [h]
  exact build75_x x0 x1 x2 x3 x4 x5 x6 x7 x8 x9 x10 x11 x12 x13 x14 x15 x16 x17 x18 x19 x20 x21 x22 x23 x24 x25 x26 x27 x28 x29 x30 x31 _ w

theorem map_ne {w : World} {r b : Nat} {E : List (Id × Value)} {F : Array Value} {t : TypeId} (h : MapI w r E) (hb : w.heap[b]? = some (.cells F t (0, 0))) : r ≠ b := fun e => by
  obtain ⟨es, c, h1, _⟩ := h
  rw [e, hb] at h1; cases h1

/-- What pushing a new cursor leaves of the log. -/
theorem LogAt.pushed {w W5 w6 : World} {L : Lg} (h : LogAt w L) (c : Cu) (hc : c.id ∉ L.S.map Cu.id) (hp : w.heap.size ≤ c.p) (h5 : Only L.foot w W5) (As : List (Id × Nat)) (hAs : (L.S.map idp).Perm As) (hnd : (As.map Prod.fst).Nodup) (m1 : MapI W5 L.pm ((As ++ [idp c]).map tru)) (m2 : MapI W5 L.am ((As ++ [idp c]).map ptr))
    (hblk : W5.heap[L.lb]? = some (.cells #[.map (some L.pm), L.v, .map (some L.am)] 73 (0, 0))) (hheap : HeapAt W5 0 L.v L.S) (hcp : W5.heap[c.p]? = some (.cells (encC c 0).toArray 75 (0, 0)))
    {v' : Value} {S' : List Cu} (hS : S'.Perm (L.S ++ [c])) (hb6 : w6.heap[L.lb]? = some (.cells #[.map (some L.pm), v', .map (some L.am)] 73 (0, 0))) (hh6 : HeapAt w6 0 v' S') (ho : Only (fun b => b = L.lb ∨ Own L.v (L.S ++ [c]) b) W5 w6) (hv : ∀ b, v'.ownBlock = some b → L.v.ownBlock = some b ∨ W5.heap.size ≤ b) : Stood w L c.id c.num w6 := by
  have hmk : ∀ r E, MapI W5 r E → MapI w6 r E := fun r E hr => by
    refine hr.block (ho.block r hr.lt (fun hb => ?_))
    rcases hb with hb | hb | hb
    · exact map_ne hr hblk hb
    · rcases hheap.row.2 with ⟨e, _⟩ | ⟨g, cap, cur, e, _, hg, _⟩
      · rw [e] at hb; cases hb
      · rw [e] at hb
        simp only [Value.ownBlock, Option.some.injEq] at hb
        exact map_ne hr hg hb.symm
    · rw [List.map_append, List.mem_append] at hb
      rcases hb with hb | hb
      · obtain ⟨d, hd, rfl⟩ := List.mem_map.1 hb
        obtain ⟨j, hj, rfl⟩ := List.getElem_of_mem hd
        exact map_ne hr (hheap.cur j hj) rfl
      · simp at hb
        exact map_ne hr hcp hb
  have hcA : c.id ∉ As.map Prod.fst := fun hh => hc (by
    have := ((hAs.map Prod.fst).mem_iff).2 hh
    simpa [idp, Function.comp_def] using this)
  refine ⟨⟨L.lb, L.pm, L.am, v', S'⟩, rfl, rfl, rfl, ⟨hb6, hh6, ⟨As ++ [idp c], ?_, ?_, hmk _ _ m1, hmk _ _ m2⟩, h.ne⟩, ?_, ?_, ?_⟩
  · have := hS.map idp
    rw [List.map_append] at this
    exact this.trans (hAs.append_right _)
  · rw [List.map_append, List.nodup_append]
    refine ⟨hnd, by simp, fun x hx y hy e => ?_⟩
    simp [idp] at hy
    subst e; subst hy
    exact hcA hx
  · have := hS.map (fun c => (c.id, c.num))
    rw [← upd_miss L.S c hc]
    exact this
  · refine ⟨ho.os.trans h5.os, ho.tape.trans h5.tape, ho.output.trans h5.output, Nat.le_trans h5.size ho.size, fun b hb hnb => ?_⟩
    rw [ho.block b (Nat.lt_of_lt_of_le hb h5.size) (fun hh => ?_), h5.block b hb hnb]
    rcases hh with hh | hh | hh
    · exact hnb (.inl hh)
    · exact hnb (.inr (.inr (.inr (.inl hh))))
    · rw [List.map_append, List.mem_append] at hh
      rcases hh with hh | hh
      · exact hnb (.inr (.inr (.inr (.inr hh))))
      · simp at hh; omega
  · intro b hb
    rcases hb with hb | hb | hb | hb | hb
    · exact .inl (.inl hb)
    · exact .inl (.inr (.inl hb))
    · exact .inl (.inr (.inr (.inl hb)))
    · rcases hv b hb with h1 | h1
      · exact .inl (.inr (.inr (.inr (.inl h1))))
      · exact .inr (Nat.le_trans h5.size h1)
    · have := ((hS.map Cu.p).mem_iff).1 hb
      rw [List.map_append, List.mem_append] at this
      rcases this with h1 | h1
      · exact .inl (.inr (.inr (.inr (.inr h1))))
      · simp at h1; exact .inr (by omega)
set_option maxRecDepth 100000 in
set_option maxHeartbeats 1000000 in
/-- stand, where no cursor stands. -/
theorem stand_miss (L : Lg) (id : Id) (n : UInt64) (w : World) (h : LogAt w L) (hid : id ∉ L.S.map Cu.id) (hL : L.S.length ≤ 100000) :
    Calls Try.prog 30 #[.pointer (some ⟨L.lb, 0, none⟩), .agg (encI id).toArray, .int .u64 (n.toNat : Int)] w fun e w' => e = .returned (.tuple #[]) ∧ Stood w L id n w' := by
  obtain ⟨k32, k66, ⟨z22, z27, z38, z55, n32, n66⟩, HK⟩ := sz_ex
  clear z22 z38 z55 n66
  have mixed : Try.prog.follows .mixedOrders = true := by kernel_rfl
  obtain ⟨w1, hw1⟩ : ∃ w1, w1 = w.alloc (.cells (encI id).toArray 27) := ⟨_, rfl⟩
  have hb1 : Below w.heap.size w w1 := by rw [hw1]; exact (Below.refl _ _).alloc (Nat.le_refl _) _
  have hbx : w1.heap[w.heap.size]? = some (.cells (encI id).toArray 27 (0, 0)) := by rw [hw1]; exact heap_alloc_last _ _
  have h1 : LogAt w1 L := h.kept (fun b hf => hb1.block b (h.lt b hf))
  obtain ⟨lb, pm, am, v, S⟩ := L
  simp only at hid hL
  have lk := fun q => ((h1.kept (w' := w1.drewN q) (fun _ _ => rfl)).look_no id hid).1
  have lp := fun q => ((h1.kept (w' := w1.drewN q) (fun _ _ => rfl)).look_no id hid).2
  have hld := fun q => ld_block (w1.drewN q) w.heap.size 0 (encI id).toArray 27 (0, 0) (encI id) k32 hbx (by rw [encI_length, HK.out.1]) (by simp)
  have cA : w1.cell? ⟨lb, 2, none⟩ = some (.map (some am)) := by simp [World.cell?, h1.blk]
  have cP : w1.cell? ⟨lb, 0, none⟩ = some (.map (some pm)) := by simp [World.cell?, h1.blk]
  have HH : Hid (LogAt w ⟨lb, pm, am, v, S⟩ ∧ LogAt w1 ⟨lb, pm, am, v, S⟩ ∧ Below w.heap.size w w1 ∧ w1.heap[w.heap.size]? = some (.cells (encI id).toArray 27 (0, 0)) ∧ id ∉ S.map Cu.id ∧ w.heap.size < w1.heap.size) := ⟨h, h1, hb1, hbx, hid, (Array.getElem?_eq_some_iff.1 hbx).1⟩
  simp only at lk lp
  clear h h1 hb1 hbx hid
  go_enter Try.func30, Try.ntmps30
  go_upto_region 1 with fail
  rw [← hw1]
  clear hw1
  go_quiet (fail)
  obtain ⟨wx, hwx⟩ : ∃ wx, wx = w1.drewN nq := ⟨_, rfl⟩
  rw [← hwx]
  have cPx : wx.cell? ⟨lb, 0, none⟩ = some (.map (some pm)) := by rw [hwx]; exact cP
  have lpx : ∀ q, Sem.run Try.prog (Instr.lookup 68 (.map (some pm)) (.agg (encI id).toArray) false) (wx.drewN q) = .ok (.bool false) (wx.drewN q) := fun q => by rw [hwx, World.drewN_drewN]; exact lp _
  have hldx : ∀ q, Sem.run Try.prog (loadCellsFrom ⟨w.heap.size, 0, none⟩ 0 k32 #[]) (wx.drewN q) = .ok (encI id).toArray (wx.drewN q) := fun q => by rw [hwx, World.drewN_drewN]; exact hld _
  have HX : Hid (wx.heap = w1.heap ∧ wx.os = w1.os ∧ wx.tape = w1.tape ∧ wx.output = w1.output) := by rw [hwx]; exact ⟨rfl, rfl, rfl, rfl⟩
  clear cA cP lk lp hld hwx
  go_upto_region 6 with fail
  go_quiet (fail)
  obtain ⟨wz, hwz⟩ : ∃ wz, wz = wx.drewN nq := ⟨_, rfl⟩
  rw [← hwz]
  have HZ : wz.heap = w1.heap ∧ wz.os = w1.os ∧ wz.tape = w1.tape ∧ wz.output = w1.output := by rw [hwz]; exact HX.out
  clear hwz HX
  obtain ⟨wy, hwy⟩ : ∃ wy, wy = wz.drew := ⟨_, rfl⟩
  have hYh : wy.heap = w1.heap := by rw [hwy]; exact HZ.1
  have hYo : Only (Lg.foot ⟨lb, pm, am, v, S⟩) w wy := by
    have o1 : Only (Lg.foot ⟨lb, pm, am, v, S⟩) w w1 := Only.below HH.out.2.2.1
    have hh := HZ
    refine ⟨by rw [hwy]; exact hh.2.1.trans o1.os, by rw [hwy]; exact hh.2.2.1.trans o1.tape, by rw [hwy]; exact hh.2.2.2.trans o1.output, by rw [hYh]; exact o1.size, fun b hb hn => by rw [hYh]; exact o1.block b hb hn⟩
  have hLy : LogAt wy ⟨lb, pm, am, v, S⟩ := HH.out.2.1.kept (fun b _ => by rw [hYh])
  obtain ⟨As, hA1, hA2, hA3, hA4⟩ := hLy.maps
  have hnA : id ∉ As.map Prod.fst := fun hh => HH.out.2.2.2.2.1 (by
    have := ((hA1.map Prod.fst).mem_iff).2 hh
    simpa [idp, Function.comp_def] using this)
  obtain ⟨W3, hu3, hM3, hg3⟩ := upd_I 68 27 4 Try.underlying68 Try.underlying27 id (.bool true) hA3 (first_none tru (fun _ => rfl) id As 0 hnA)
  have cPy : wz.drew.cell? ⟨lb, 0, none⟩ = some (.map (some pm)) := by rw [← hwy]; simp [World.cell?, hLy.blk]
  have hldy : Sem.run Try.prog (loadCellsFrom ⟨w.heap.size, 0, none⟩ 0 k32 #[]) wz.drew = .ok (encI id).toArray wz.drew := by
    rw [← hwy]; exact ld_block wy w.heap.size 0 (encI id).toArray 27 (0, 0) (encI id) k32 (by rw [hYh]; exact HH.out.2.2.2.1) (by rw [encI_length, HK.out.1]) (by simp)
  rw [hwy] at hu3
  have hpm : w.heap.size ≠ pm := fun e => by have := HH.out.1.lt pm (.inr (.inl rfl)); omega
  have hk3 : ∀ b, b < w1.heap.size → b ≠ pm → W3.heap[b]? = w1.heap[b]? := fun b hb hne => by rw [hg3.block b (by rw [hYh]; exact hb) (fun e => hne (Option.some.inj e)), hYh]
  have hsz3 : w1.heap.size ≤ W3.heap.size := by have := hg3.size; rw [hYh] at this; exact this
  have hbx3 : W3.heap[w.heap.size]? = some (.cells (encI id).toArray 27 (0, 0)) := by rw [hk3 _ HH.out.2.2.2.2.2 hpm]; exact HH.out.2.2.2.1
  have hld3 : Sem.run Try.prog (loadCellsFrom ⟨w.heap.size, 0, none⟩ 0 k32 #[]) W3 = .ok (encI id).toArray W3 := ld_block W3 w.heap.size 0 (encI id).toArray 27 (0, 0) (encI id) k32 hbx3 (by rw [encI_length, HK.out.1]) (by simp)
  obtain ⟨c, hc⟩ : ∃ c : Cu, c = ⟨id, n, W3.heap.size⟩ := ⟨_, rfl⟩
  have H3 : Hid (Only (Lg.foot ⟨lb, pm, am, v, S⟩) w wy ∧ LogAt wy ⟨lb, pm, am, v, S⟩ ∧ (S.map idp).Perm As ∧ (As.map Prod.fst).Nodup ∧ MapI wy am (As.map ptr) ∧ MapI W3 pm (As.map tru ++ [(id, .bool true)]) ∧ wy.grownBy W3 (some pm) ∧ id ∉ As.map Prod.fst ∧ (∀ b, b < w1.heap.size → b ≠ pm → W3.heap[b]? = w1.heap[b]?) ∧ W3.heap[w.heap.size]? = some (.cells (encI id).toArray 27 (0, 0)) ∧ w1.heap.size ≤ W3.heap.size ∧ wy.heap = w1.heap) := ⟨hYo, hLy, hA1, hA2, hA4, hM3, hg3, hnA, hk3, hbx3, hsz3, hYh⟩
  clear hYo hLy hA1 hA2 hA3 hA4 hM3 hg3 hnA hk3 hbx3 hwy hYh cPx lpx hldx HZ hsz3 hpm
  go_upto_region 7 with fail
  go_region
  go_upto_region 8 with fail
  go_upto_region 9 with (refine wpList_build2 rfl 75 (.tmp 46) (.tmp 47) rfl (.agg (encI id).toArray) (.int .u64 (n.toNat : Int)) (.agg (encC ⟨id, n, W3.heap.size⟩ 0).toArray) rfl rfl (build75_any id n W3.heap.size _) ?_)
  obtain ⟨W4, hW4⟩ : ∃ W4, W4 = W3.alloc (.cells (encC ⟨id, n, W3.heap.size⟩ 0).toArray 75) := ⟨_, rfl⟩
  rw [← hW4]
  have hb4 : Below W3.heap.size W3 W4 := by rw [hW4]; exact (Below.refl _ _).alloc (Nat.le_refl _) _
  have hc4 : W4.heap[c.p]? = some (.cells (encC c 0).toArray 75 (0, 0)) := by rw [hW4, hc]; exact heap_alloc_last _ _
  have hcp : c.p = W3.heap.size := by rw [hc]
  obtain ⟨o3, l3, p3, nd3, m3, mp3, g3, nA, k3, bx3, sz3, yh⟩ := H3.out
  have hlam := HH.out.1.lt am (.inr (.inr (.inl rfl)))
  have hllb := HH.out.1.lt lb (.inl rfl)
  have hs1 := HH.out.2.2.1.size
  have hlbpm : lb ≠ pm := fun e => by
    obtain ⟨As', _, _, m', _⟩ := l3.maps
    exact map_ne m' l3.blk e.symm
  have hk4 : ∀ b, b < w1.heap.size → b ≠ pm → W4.heap[b]? = w1.heap[b]? := fun b hb hne => by rw [hb4.block b (by omega)]; exact k3 b hb hne
  have hm4 : MapI W4 am (As.map ptr) := m3.block (by rw [hk4 am (by omega) (Ne.symm HH.out.1.ne), yh])
  have hp4 : MapI W4 pm (As.map tru ++ [(id, .bool true)]) := mp3.block (hb4.block pm mp3.lt)
  obtain ⟨W5, hu5, hM5, hg5⟩ := upd_I 71 27 76 Try.underlying71 Try.underlying27 id (.pointer (some ⟨W3.heap.size, 0, none⟩)) (w := W4.drew) hm4 (first_none ptr (fun _ => rfl) id As 0 nA)
  have hbx4 : W4.heap[w.heap.size]? = some (.cells (encI id).toArray 27 (0, 0)) := by rw [hb4.block _ (by have := HH.out.2.2.2.2.2; omega)]; exact bx3
  have hblk4 : W4.heap[lb]? = some (.cells #[.map (some pm), v, .map (some am)] 73 (0, 0)) := by rw [hk4 lb (by omega) hlbpm]; exact HH.out.2.1.blk
  have hlbam : lb ≠ am := fun e => map_ne hm4 hblk4 e.symm
  have hk5 : ∀ b, b < W4.heap.size → b ≠ am → W5.heap[b]? = W4.heap[b]? := fun b hb hne => hg5.block b hb (fun e => hne (Option.some.inj e))
  have hsz4 : w1.heap.size ≤ W4.heap.size := by have := hb4.size; omega
  have hown : ∀ b, Own v S b → b < w1.heap.size ∧ b ≠ pm ∧ b ≠ am := fun b hb => by
    have hlt := HH.out.1.lt b (.inr (.inr (.inr hb)))
    obtain ⟨As', _, _, m', m''⟩ := HH.out.2.1.maps
    have hcell : ∃ F t, w1.heap[b]? = some (Obj.cells F t (0, 0)) := by
      rcases hb with hb | hb
      · rcases HH.out.2.1.heap.row.2 with ⟨e, _⟩ | ⟨g, cap, cur, e, _, hg, _⟩
        · simp only at e; rw [e] at hb; cases hb
        · simp only at e; rw [e] at hb
          simp only [Value.ownBlock, Option.some.injEq] at hb
          exact ⟨_, _, hb ▸ hg⟩
      · obtain ⟨d, hd, rfl⟩ := List.mem_map.1 hb
        obtain ⟨j, hj, rfl⟩ := List.getElem_of_mem hd
        exact ⟨_, _, HH.out.2.1.heap.cur j hj⟩
    obtain ⟨F, t, hF⟩ := hcell
    exact ⟨by omega, Ne.symm (map_ne m' hF), Ne.symm (map_ne m'' hF)⟩
  have hheap5 : HeapAt W5 0 v S := HH.out.2.1.heap.kept (fun b hb => by
    obtain ⟨q1, q2, q3⟩ := hown b hb
    rw [hk5 b (by omega) q3, hk4 b q1 q2])
  have hblk5 : W5.heap[lb]? = some (.cells #[.map (some pm), v, .map (some am)] 73 (0, 0)) := by rw [hk5 lb (by omega) hlbam]; exact hblk4
  have hc5 : W5.heap[c.p]? = some (.cells (encC c 0).toArray 75 (0, 0)) := by
    have hlt := (Array.getElem?_eq_some_iff.1 hc4).1
    rw [hk5 c.p hlt (fun e => map_ne (e ▸ hm4) hc4 rfl)]; exact hc4
  have hcS : c.p ∉ S.map Cu.p := fun hh => by
    have := (hown c.p (.inr hh)).1
    omega
  have hp5 : MapI W5 pm (As.map tru ++ [(id, .bool true)]) := hp4.block (hk5 pm hp4.lt HH.out.1.ne)
  have hO5 : Only (Lg.foot ⟨lb, pm, am, v, S⟩) w W5 := by
    refine o3.trans ((Only.grown g3 (fun b hb => ?_)).trans (((Only.below hb4).drewN 1).trans (Only.grown hg5 (fun b hb => ?_))))
    · exact .inr (.inl (Option.some.inj hb).symm)
    · exact .inr (.inr (.inl (Option.some.inj hb).symm))
  have CP : Hid (Calls Try.prog 33 #[.iface 79 (.pointer (some ⟨lb, 1, none⟩)), .iface 76 (.pointer (some ⟨W3.heap.size, 0, none⟩))] W5 fun e w' => e = .returned (.tuple #[]) ∧ Stood w ⟨lb, pm, am, v, S⟩ id n w') := by
    have := push_any 0 lb v (.map (some pm)) (.map (some am)) S c W5 hblk5 hheap5 hc5 hcS (Nat.zero_le _) (by omega)
    rw [hcp] at this
    refine this.mono ?_
    rintro e w' ⟨rfl, v', S', r1, r2, r3, r4, r5⟩
    refine ⟨rfl, ?_⟩
    have e1 : c.id = id := by rw [hc]
    have e2 : c.num = n := by rw [hc]
    have := HH.out.1.pushed (W5 := W5) (w6 := w') c (by rw [e1]; exact HH.out.2.2.2.2.1) (by rw [hcp]; omega) hO5 As p3 nd3 (by rw [List.map_append, hc]; exact hp5) (by rw [List.map_append, hc]; exact hM5) hblk5 hheap5 hc5 r1 r2 r3 r4 r5
    rw [e1, e2] at this
    exact this
  have cAy : W4.drew.cell? ⟨lb, 2, none⟩ = some (.map (some am)) := by show W4.cell? _ = _; simp [World.cell?, hblk4]
  have hld4 : Sem.run Try.prog (loadCellsFrom ⟨w.heap.size, 0, none⟩ 0 k32 #[]) W4.drew = .ok (encI id).toArray W4.drew := ld_block W4.drew w.heap.size 0 (encI id).toArray 27 (0, 0) (encI id) k32 hbx4 (by rw [encI_length, HK.out.1]) (by simp)
  clear o3 l3 p3 nd3 m3 mp3 g3 nA k3 bx3 sz3 yh hlam hllb hs1 hlbpm hk4 hm4 hp4 hM5 hg5 hbx4 hblk4 hlbam hk5 hsz4 hown hheap5 hblk5 hc5 hcS hp5 hO5 hb4 hc4 hcp hW4 H3 hc hu3 cPy hldy hld3
  go_region
  go_wp2_with fail
  refine CP.out.mono ?_
  rintro e w7 ⟨rfl, HF⟩
  have HF2 : Hid (Stood w ⟨lb, pm, am, v, S⟩ id n w7) := HF
  clear HF
  go_wp2
  go_end0
  exact ⟨rfl, HF2.out⟩
end Go.Proofs.Qxb6615634a
