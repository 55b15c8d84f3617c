/-
  DERIVED. toHead, toHeads, NewHeld.
-/
import Derived.Test.Qxb6615634aRead
import Derived.OwnWalk
import Derived.ArgAppend
namespace Go.Proofs.Qxb6615634a
open Go.RowKit Go.Sort

theorem wpList_build4 {P : Program} {ops : Array Oper} {rest : List Oper} {o : Oper} {a : Act} {w : World} {Q : Exit → Act → World → Prop} (hg : o.guard = none) (t : TypeId) (x y z u : Operand) (ho : o.op = .build t #[(0, x), (1, y), (2, z), (3, u)])
    (vx vy vz vu v : Value) (hx : a.eval x = vx) (hy : a.eval y = vy) (hz : a.eval z = vz) (hu : a.eval u = vu) (hrun : (Instr.build t #[(0, vx), (1, vy), (2, vz), (3, vu)]).run P w = .ok v w)
    (h : wpList P ops Q rest (a.put o.dst v) w) : wpList P ops Q (o :: rest) a w := by
  refine wpList_plain hg fun _ hK => ?_
  unfold Oper.wp execOp
  simp only [ho, Sem.run_bind]
  have e : (#[(0, x), (1, y), (2, z), (3, u)] : Array (Nat × Operand)).map (fun (i, x) => (i, a.eval x)) = #[(0, vx), (1, vy), (2, vz), (3, vu)] := by simp [hx, hy, hz, hu]
  rw [e, hrun]
  exact hK _ _ h

theorem build55_x (x0 x1 x2 x3 x4 x5 x6 x7 x8 x9 x10 x11 x12 x13 x14 x15 x16 x17 x18 x19 x20 x21 x22 x23 x24 x25 x26 x27 x28 x29 x30 x31 y0 y1 y2 y3 y4 y5 y6 y7 y8 y9 y10 y11 y12 y13 y14 y15 y16 y17 y18 y19 y20 y21 y22 y23 y24 y25 y26 y27 y28 y29 y30 y31 : Value) (m : ByteArray) (f : Int) (w : World) :
    (Instr.build 55 #[(0, .agg #[x0, x1, x2, x3, x4, x5, x6, x7, x8, x9, x10, x11, x12, x13, x14, x15, x16, x17, x18, x19, x20, x21, x22, x23, x24, x25, x26, x27, x28, x29, x30, x31]), (1, .string m), (2, .int .u64 f), (3, .agg #[y0, y1, y2, y3, y4, y5, y6, y7, y8, y9, y10, y11, y12, y13, y14, y15, y16, y17, y18, y19, y20, y21, y22, y23, y24, y25, y26, y27, y28, y29, y30, y31])]).run Try.prog w = .ok (.agg #[x0, x1, x2, x3, x4, x5, x6, x7, x8, x9, x10, x11, x12, x13, x14, x15, x16, x17, x18, x19, x20, x21, x22, x23, x24, x25, x26, x27, x28, x29, x30, x31, .string m, .int .u64 f, y0, y1, y2, y3, y4, y5, y6, y7, y8, y9, y10, y11, y12, y13, y14, y15, y16, y17, y18, y19, y20, y21, y22, y23, y24, y25, y26, y27, y28, y29, y30, y31]) w := by kernel_rfl
theorem build55_any (x : Hd) (w : World) : (Instr.build 55 #[(0, .agg (encI x.proj).toArray), (1, .string x.mem), (2, .int .u64 (x.num.toNat : Int)), (3, .agg (encI x.rev).toArray)]).run Try.prog w = .ok (.agg (encH x).toArray) w := by
  obtain ⟨x0, x1, x2, x3, x4, x5, x6, x7, x8, x9, x10, x11, x12, x13, x14, x15, x16, x17, x18, x19, x20, x21, x22, x23, x24, x25, x26, x27, x28, x29, x30, x31, h⟩ := list32 (encI x.proj) (encI_length _)
  obtain ⟨y0, y1, y2, y3, y4, y5, y6, y7, y8, y9, y10, y11, y12, y13, y14, y15, y16, y17, y18, y19, y20, y21, y22, y23, y24, y25, y26, y27, y28, y29, y30, y31, k⟩ := list32 (encI x.rev) (encI_length _)
  simp only [encH]
  rw [h, k]
  exact build55_x x0 x1 x2 x3 x4 x5 x6 x7 x8 x9 x10 x11 x12 x13 x14 x15 x16 x17 x18 x19 x20 x21 x22 x23 x24 x25 x26 x27 x28 x29 x30 x31 y0 y1 y2 y3 y4 y5 y6 y7 y8 y9 y10 y11 y12 y13 y14 y15 y16 y17 y18 y19 y20 y21 y22 y23 y24 y25 y26 y27 y28 y29 y30 y31 _ _ w

def noHd : Hd := ⟨Vector.replicate 32 0, .empty, 0, Vector.replicate 32 0⟩
theorem Try.info55 : (Try.prog.info? 55).map (fun i => (i.zero, i.size, i.bytes)) = some (some (.agg (encH noHd).toArray), 66, 88) := by kernel_rfl
theorem zero55 : ∃ Z : Array Value, Hid (Z.size = 66) ∧ ∀ w, (zeroValue 55).run Try.prog w = .ok (.agg Z) w := by
  obtain ⟨i, hi, hz, _, _⟩ := info_parts Try.info55
  exact ⟨(encH noHd).toArray, by show _ = _; simp [encH_length], fun w => by simp [zeroValue, typeInfo, hi, hz]⟩

set_option maxRecDepth 100000 in
set_option maxHeartbeats 1000000 in
/-- toHead. -/
theorem toHead_any (x : Hd) (w : World) : Calls Try.prog 23 #[.agg (encH x).toArray] w fun e w' => e = .returned (.agg (encH x).toArray) ∧ Below w.heap.size w w' := by
  obtain ⟨k32, k66, ⟨z22, z27, z38, z55, n32, n66⟩, HK⟩ := sz_ex
  clear z27
  obtain ⟨Z, hZ, v55⟩ := zero55
  obtain ⟨w1, hw1⟩ : ∃ w1, w1 = w.alloc (.cells (encH x).toArray 38) := ⟨_, rfl⟩
  obtain ⟨w2, hw2⟩ : ∃ w2, w2 = w1.alloc (.cells Z 55) := ⟨_, rfl⟩
  have hs1 : w1.heap.size = w.heap.size + 1 := by rw [hw1]; simp
  have hbx : w2.heap[w.heap.size]? = some (.cells (encH x).toArray 38 (0, 0)) := by
    rw [hw2, ((Below.refl _ _).alloc (Nat.le_refl _) _).block _ (by omega), hw1]; exact heap_alloc_last _ _
  have l1 : Sem.run Try.prog (loadCellsFrom ⟨w.heap.size, 0, none⟩ 0 k32 #[]) w2 = .ok (encI x.proj).toArray w2 := ld_block _ _ _ _ 38 (0, 0) _ _ hbx (by rw [encI_length, HK.out.1]) (encH_proj x)
  have l2 : Sem.run Try.prog (loadCellsFrom ⟨w.heap.size, 34, none⟩ 0 k32 #[]) w2 = .ok (encI x.rev).toArray w2 := ld_block _ _ _ _ 38 (0, 0) _ _ hbx (by rw [encI_length, HK.out.1]) (encH_rev x)
  have c1 : w2.cell? ⟨w.heap.size, 32, none⟩ = some (.string x.mem) := by simpa [World.cell?, hbx] using encH_32 x
  have c2 : w2.cell? ⟨w.heap.size, 33, none⟩ = some (.int .u64 (x.num.toNat : Int)) := by simpa [World.cell?, hbx] using encH_33 x
  have st : Sem.run Try.prog (storeCells ⟨w1.heap.size, 0, none⟩ (encH x) 0) w2 = .ok () (w1.alloc (.cells (encH x).toArray 55)) := by rw [hw2]; exact st_new w1 55 Z _ (by rw [encH_length]; exact hZ.out) (encH_one _)
  rw [hs1] at st
  have hln : (encH x).length = k66 := by rw [encH_length, HK.out.2]
  have HF : Hid (Below w.heap.size w (w1.alloc (.cells (encH x).toArray 55)) ∧ (w1.alloc (.cells (encH x).toArray 55)).heap[w.heap.size + 1]? = some (.cells (encH x).toArray 55 (0, 0))) := by
    refine ⟨?_, by rw [← hs1]; exact heap_alloc_last _ _⟩
    rw [hw1]
    exact ((Below.refl _ _).alloc (Nat.le_refl _) _).alloc (by simp) _
  have HW : Hid (w2 = w1.alloc (.cells Z 55) ∧ w1 = w.alloc (.cells (encH x).toArray 38)) := ⟨hw2, hw1⟩
  rw [hw1] at hw2
  clear hbx hs1 hw1
  go_enter Try.func23, Try.ntmps23
  go_upto_region 1 with fail
  rw [← hw2]
  clear hw2
  go_wp2_with (refine wpList_build4 rfl 55 (.tmp 4) (.tmp 6) (.tmp 8) (.tmp 10) rfl (.agg (encI x.proj).toArray) (.string x.mem) (.int .u64 (x.num.toNat : Int)) (.agg (encI x.rev).toArray) (.agg (encH x).toArray) rfl rfl rfl rfl (build55_any x _) ?_)
  refine bodyPost_ret (v := .agg (encH x).toArray) ?_ rfl ⟨rfl, HF.out.1⟩
  exact results_cell_row Try.results23 _ _ (w.heap.size + 1) 55 _ (0, 0) _ (by simp) HF.out.2 Try.underlying55 rfl (by rw [List.size_toArray, encH_length]; kernel_rfl)
end Go.Proofs.Qxb6615634a
