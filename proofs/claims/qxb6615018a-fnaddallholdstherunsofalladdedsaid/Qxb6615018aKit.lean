/-
  DERIVED. Serial numbers and ranges as rows of cells: encodings, '==' on GUIDs and structs, loads and stores of whole aggregates as equations (the number of cells kept a variable, so that the walk does not unroll them).
-/
import Derived.Test.Qxb6615018aProg
import Derived.WalkKit
import Derived.WalkSpells
import Derived.WalkLawsBesides
import Derived.Deep.QuietTactic
import Derived.BigQuiet
import Derived.Deep.WholeRow
import Derived.Sort.Grow
namespace Go.Proofs.Qxb6615018a
open Go.RowKit

abbrev Gd := Vector UInt8 16
abbrev Sn := Gd × UInt64
abbrev Rg := Gd × UInt64 × UInt64

def encG (g : Gd) : List Value := g.toList.map fun b => .int .u8 (b.toNat : Int)
def encS (s : Sn) : List Value := encG s.1 ++ [.int .u64 (s.2.toNat : Int)]
def encR (r : Rg) : List Value := encG r.1 ++ [.int .u64 (r.2.1.toNat : Int), .int .u64 (r.2.2.toNat : Int)]

theorem encG_length (g : Gd) : (encG g).length = 16 := by simp [encG]
theorem encS_length (s : Sn) : (encS s).length = 17 := by simp [encS, encG_length]
theorem encR_length (r : Rg) : (encR r).length = 18 := by simp [encR, encG_length]
theorem encG_one (g : Gd) : ∀ v ∈ encG g, v.oneCell' = true := by
  intro v hv
  simp only [encG, List.mem_map] at hv
  obtain ⟨b, _, rfl⟩ := hv
  rfl
theorem encS_one (s : Sn) : ∀ v ∈ encS s, v.oneCell' = true := by
  intro v hv
  rcases List.mem_append.1 hv with h | h
  · exact encG_one _ v h
  · simp at h; subst h; rfl
theorem encR_one (r : Rg) : ∀ v ∈ encR r, v.oneCell' = true := by
  intro v hv
  rcases List.mem_append.1 hv with h | h
  · exact encG_one _ v h
  · simp at h; rcases h with rfl | rfl <;> rfl

theorem encS_take (s : Sn) : (encS s).take 16 = encG s.1 := by
  rw [encS, List.take_append_of_le_length (by rw [encG_length]; exact Nat.le_refl _), List.take_of_length_le (by rw [encG_length]; exact Nat.le_refl _)]
theorem encR_take (r : Rg) : (encR r).take 16 = encG r.1 := by
  rw [encR, List.take_append_of_le_length (by rw [encG_length]; exact Nat.le_refl _), List.take_of_length_le (by rw [encG_length]; exact Nat.le_refl _)]
theorem encS_16 (s : Sn) : (encS s)[16]? = some (.int .u64 (s.2.toNat : Int)) := by
  rw [encS, List.getElem?_append_right (by rw [encG_length]; exact Nat.le_refl _), encG_length]; rfl
theorem encR_16 (r : Rg) : (encR r)[16]? = some (.int .u64 (r.2.1.toNat : Int)) := by
  rw [encR, List.getElem?_append_right (by rw [encG_length]; exact Nat.le_refl _), encG_length]; rfl
theorem encR_17 (r : Rg) : (encR r)[17]? = some (.int .u64 (r.2.2.toNat : Int)) := by
  rw [encR, List.getElem?_append_right (by rw [encG_length]; omega), encG_length]; rfl

theorem encG_get (g : Gd) (i : Nat) (hi : i < 16) : (encG g)[i]? = some (.int .u8 (g[i].toNat : Int)) := by
  simp [encG, hi]

/-! ### '==' on GUIDs -/

theorem Try.notAgg5 (w : World) : (Go.isAgg 5).run Try.prog w = .ok false w := by simp [go_sem]

theorem part5 (g : Gd) (i : Nat) (hi : i < 16) (w : World) : (part 5 (encG g).toArray i).run Try.prog w = .ok (.int .u8 (g[i].toNat : Int)) w := by
  unfold part
  simp only [Sem.run_bind, Try.notAgg5, Result.andThen_ok, Bool.false_eq_true, if_false]
  rw [List.getElem?_toArray, encG_get g i hi]
  rfl

theorem eqG_loop (d : Nat) (g h : Gd) : ∀ (l : List Nat) (w : World), (∀ i ∈ l, i < 16) →
    (Sem.run Try.prog (forIn l ((none, ()) : Option Bool × Unit) fun i __s => do
            let __do_lift ← part 5 (encG g).toArray (i * 1)
            let __do_lift_1 ← part 5 (encG h).toArray (i * 1)
            let __do_lift ← Op.equalIn (d + 1) 5 __do_lift __do_lift_1
            if (!__do_lift) = true then pure (ForInStep.done (some false, ())) else pure (ForInStep.yield (none, ()))) w) =
      .ok (if (∀ i ∈ l, g.toList[i]? = h.toList[i]?) then (none, ()) else (some false, ())) w
  | [], w, _ => by simp
  | i :: l, w, hl => by
    have hi := hl i (by simp)
    simp only [List.forIn_cons, Sem.run_bind, Nat.mul_one, part5 _ i hi, Result.andThen_ok]
    rw [run_equalIn_int w d 5 .u8 .u8 _ _ Try.underlying5]
    simp only [Result.andThen_ok]
    by_cases e : g[i] = h[i]
    · have e' : g.toList[i]? = h.toList[i]? := by simp [hi, e]
      rw [e]
      simp only [beq_self_eq_true, Bool.not_true, Bool.false_eq_true, if_false, Sem.run_pure, Result.andThen_ok]
      have ih := eqG_loop d g h l w (fun j hj => hl j (by simp [hj]))
      simp only [Nat.mul_one] at ih
      rw [ih]
      simp only [List.mem_cons, forall_eq_or_imp, e', true_and]
    · have e' : ¬ g.toList[i]? = h.toList[i]? := by simp [hi, e]
      have e2 : ((g[i].toNat : Int) == (h[i].toNat : Int)) = false := by
        simp only [beq_eq_false_iff_ne, ne_eq, Int.natCast_inj]
        exact fun hh => e (UInt8.toNat_inj.1 hh)
      rw [e2]
      simp only [Bool.not_false, if_true, Sem.run_pure, Result.andThen_ok]
      rw [if_neg (fun hh => e' (hh i (by simp)))]

theorem eqG (d : Nat) (t : TypeId) (ht : Try.prog.underlying t = some (.array 16 5)) (g h : Gd) (w : World) :
    (Op.equalIn (d + 2) t (.agg (encG g).toArray) (.agg (encG h).toArray)).run Try.prog w = .ok (g == h) w := by
  have z5 : ∀ w, (Go.sizeOf 5).run Try.prog w = .ok 1 w := fun w => by simp [go_sem]
  unfold Op.equalIn
  simp only [Sem.run_bind, run_underlying ht, Result.andThen_ok, z5]
  rw [Std.Legacy.Range.forIn_eq_forIn_range']
  have hr : List.range' ([:16] : Std.Legacy.Range).start ([:16] : Std.Legacy.Range).size ([:16] : Std.Legacy.Range).step = List.range 16 := by decide
  rw [hr]
  have := eqG_loop d g h (List.range 16) w (fun i hi => List.mem_range.1 hi)
  rw [this]
  by_cases e : g = h
  · subst e; simp
  · have e' : ¬ ∀ i ∈ List.range 16, g.toList[i]? = h.toList[i]? := by
      intro hh
      apply e
      apply Vector.toList_inj.1
      apply List.ext_getElem?
      intro i
      by_cases hi : i < 16
      · exact hh i (List.mem_range.2 hi)
      · simp [hi]
    rw [if_neg e']
    have : (g == h) = false := by simpa using e
    rw [this]
    simp

/-! ### The numbers of cells, kept as variables -/

structure Sz (k16 k17 k18 : Nat) : Prop where
  z22 : ∀ w, (Go.sizeOf 22).run Try.prog w = .ok k16 w
  z24 : ∀ w, (Go.sizeOf 24).run Try.prog w = .ok k16 w
  z27 : ∀ w, (Go.sizeOf 27).run Try.prog w = .ok k17 w
  z30 : ∀ w, (Go.sizeOf 30).run Try.prog w = .ok k17 w
  z53 : ∀ w, (Go.sizeOf 53).run Try.prog w = .ok k17 w
  z40 : ∀ w, (Go.sizeOf 40).run Try.prog w = .ok k18 w
  z62 : ∀ w, (Go.sizeOf 62).run Try.prog w = .ok k18 w
  n16 : ¬ k16 = 0
  n17 : ¬ k17 = 0
  n18 : ¬ k18 = 0

theorem sz_ex : ∃ k16 k17 k18, Sz k16 k17 k18 ∧ Hid (k16 = 16 ∧ k17 = 17 ∧ k18 = 18) :=
  ⟨16, 17, 18, ⟨fun w => by simp [go_sem], fun w => by simp [go_sem], fun w => by simp [go_sem], fun w => by simp [go_sem], fun w => by simp [go_sem], fun w => by simp [go_sem], fun w => by simp [go_sem], by decide, by decide, by decide⟩, rfl, rfl, rfl⟩

/-! ### Loads and stores of aggregates -/

/-- A part of a block, read as an aggregate. -/
theorem ld_block (W : World) (b o : Nat) (cs : Array Value) (t : TypeId) (fr : Nat × Nat) (vs : List Value) (k : Nat) (hb : W.heap[b]? = some (.cells cs t fr)) (hk : vs.length = k) (hv : ∀ j v, vs[j]? = some v → cs[o + j]? = some v) :
    Sem.run Try.prog (loadCellsFrom ⟨b, o, none⟩ 0 k #[]) W = .ok vs.toArray W := by
  have := run_loadCells_list (P := Try.prog) W ⟨b, o, none⟩ vs (fun j v hj => by
    have hadd : (⟨b, o, none⟩ : Addr).add j = ⟨b, o + j, none⟩ := by unfold Addr.add; split <;> simp_all
    rw [hadd, cell_of_row _ _ _ cs t fr hb]
    exact hv j v hj)
  rw [hk] at this
  simpa [loadCells] using this

theorem heap_alloc_at (w : World) (o : Obj) (b : Nat) (h : b = w.heap.size) : (w.alloc o).heap[b]? = some o := by subst h; exact heap_alloc_last w o

theorem list16 (l : List Value) (h : l.length = 16) : ∃ x0 x1 x2 x3 x4 x5 x6 x7 x8 x9 x10 x11 x12 x13 x14 x15, l = [x0, x1, x2, x3, x4, x5, x6, x7, x8, x9, x10, x11, x12, x13, x14, x15] := by
  match l, h with
  | [x0, x1, x2, x3, x4, x5, x6, x7, x8, x9, x10, x11, x12, x13, x14, x15], _ => exact ⟨x0, x1, x2, x3, x4, x5, x6, x7, x8, x9, x10, x11, x12, x13, x14, x15, rfl⟩
theorem build62_x (x0 x1 x2 x3 x4 x5 x6 x7 x8 x9 x10 x11 x12 x13 x14 x15 : Value) (f t : Int) (w : World) :
    (Instr.build 62 #[(0, .agg #[x0, x1, x2, x3, x4, x5, x6, x7, x8, x9, x10, x11, x12, x13, x14, x15]), (1, .int .u64 f), (2, .int .u64 t)]).run Try.prog w = .ok (.agg #[x0, x1, x2, x3, x4, x5, x6, x7, x8, x9, x10, x11, x12, x13, x14, x15, .int .u64 f, .int .u64 t]) w := by kernel_rfl
theorem build27_x (x0 x1 x2 x3 x4 x5 x6 x7 x8 x9 x10 x11 x12 x13 x14 x15 : Value) (f : Int) (w : World) :
    (Instr.build 27 #[(0, .agg #[x0, x1, x2, x3, x4, x5, x6, x7, x8, x9, x10, x11, x12, x13, x14, x15]), (1, .int .u64 f)]).run Try.prog w = .ok (.agg #[x0, x1, x2, x3, x4, x5, x6, x7, x8, x9, x10, x11, x12, x13, x14, x15, .int .u64 f]) w := by kernel_rfl
theorem build62_any (g : Gd) (f t : UInt64) (w : World) :
    (Instr.build 62 #[(0, .agg (encG g).toArray), (1, .int .u64 (f.toNat : Int)), (2, .int .u64 (t.toNat : Int))]).run Try.prog w = .ok (.agg (encR (g, f, t)).toArray) w := by
  obtain ⟨x0, x1, x2, x3, x4, x5, x6, x7, x8, x9, x10, x11, x12, x13, x14, x15, h⟩ := list16 (encG g) (encG_length g)
  rw [encR, h]
  exact build62_x x0 x1 x2 x3 x4 x5 x6 x7 x8 x9 x10 x11 x12 x13 x14 x15 _ _ w

theorem build27_any (g : Gd) (f : UInt64) (w : World) :
    (Instr.build 27 #[(0, .agg (encG g).toArray), (1, .int .u64 (f.toNat : Int))]).run Try.prog w = .ok (.agg (encS (g, f)).toArray) w := by
  obtain ⟨x0, x1, x2, x3, x4, x5, x6, x7, x8, x9, x10, x11, x12, x13, x14, x15, h⟩ := list16 (encG g) (encG_length g)
  rw [encS, h]
  exact build27_x x0 x1 x2 x3 x4 x5 x6 x7 x8 x9 x10 x11 x12 x13 x14 x15 _ w

/-- A whole aggregate into the block that was made last. -/
theorem st_new (W : World) (t : TypeId) (Z : Array Value) (vs : List Value) (hs : Z.size = vs.length) (h1 : ∀ v ∈ vs, v.oneCell' = true) :
    Sem.run Try.prog (storeCells ⟨W.heap.size, 0, none⟩ vs 0) (W.alloc (.cells Z t)) = .ok () (W.alloc (.cells vs.toArray t)) := by
  have := run_storeCells_from (P := Try.prog) W.heap.size t vs 0 Z (W.alloc (.cells Z t)) (heap_alloc_last W _) (by omega) h1
  rw [this]
  simp only [List.take_zero, List.nil_append, World.setRow_alloc_new]

/-! ### Worlds that only grew: new blocks and draws -/

def Gr (w w' : World) : Prop := ∃ q os, w' = Sort.grow (w.drewN q) os
theorem Gr.refl (w : World) : Gr w w := ⟨0, #[], by simp [World.drewN]⟩
theorem Gr.alloc {w w' : World} (h : Gr w w') (o : Obj) : Gr w (w'.alloc o) := by
  obtain ⟨q, os, rfl⟩ := h
  exact ⟨q, os ++ #[o], by rw [Sort.alloc_eq_grow, Sort.grow_grow]⟩
theorem drewN_grow (w : World) (os : Array Obj) (n : Nat) : (Sort.grow w os).drewN n = Sort.grow (w.drewN n) os := rfl
theorem Gr.drewN {w w' : World} (h : Gr w w') (n : Nat) : Gr w (w'.drewN n) := by
  obtain ⟨q, os, rfl⟩ := h
  exact ⟨q + n, os, by rw [drewN_grow, World.drewN_drewN]⟩
theorem Gr.drew {w w' : World} (h : Gr w w') : Gr w w'.drew := h.drewN 1
theorem Gr.trans {a b c : World} (h : Gr a b) (k : Gr b c) : Gr a c := by
  obtain ⟨q, os, rfl⟩ := h
  obtain ⟨q', os', rfl⟩ := k
  exact ⟨q + q', os ++ os', by rw [drewN_grow, World.drewN_drewN, Sort.grow_grow]⟩
theorem Gr.below {w w' : World} (h : Gr w w') : Below w.heap.size w w' := by
  obtain ⟨q, os, rfl⟩ := h
  exact (below_drewN (Below.refl _ w) q).trans ⟨rfl, rfl, rfl, by simp [Sort.grow], fun k hk => Sort.heap_grow_old _ os (by simpa using hk)⟩

/-- 'build' of three parts, of two, by the equation of its run. -/
theorem wpList_build3 {P : Program} {ops : Array Oper} {rest : List Oper} {o : Oper} {a : Act} {w : World} {Q : Exit → Act → World → Prop} (hg : o.guard = none) (t : TypeId) (x y z : Operand) (ho : o.op = .build t #[(0, x), (1, y), (2, z)])
    (vx vy vz v : Value) (hx : a.eval x = vx) (hy : a.eval y = vy) (hz : a.eval z = vz) (hrun : (Instr.build t #[(0, vx), (1, vy), (2, vz)]).run P w = .ok v w)
    (h : wpList P ops Q rest (a.put o.dst v) w) : wpList P ops Q (o :: rest) a w := by
  refine wpList_plain hg fun _ hK => ?_
  unfold Oper.wp execOp
  simp only [ho, Sem.run_bind]
  have e : (#[(0, x), (1, y), (2, z)] : Array (Nat × Operand)).map (fun (i, x) => (i, a.eval x)) = #[(0, vx), (1, vy), (2, vz)] := by simp [hx, hy, hz]
  rw [e, hrun]
  exact hK _ _ h
theorem wpList_build2 {P : Program} {ops : Array Oper} {rest : List Oper} {o : Oper} {a : Act} {w : World} {Q : Exit → Act → World → Prop} (hg : o.guard = none) (t : TypeId) (x y : Operand) (ho : o.op = .build t #[(0, x), (1, y)])
    (vx vy v : Value) (hx : a.eval x = vx) (hy : a.eval y = vy) (hrun : (Instr.build t #[(0, vx), (1, vy)]).run P w = .ok v w)
    (h : wpList P ops Q rest (a.put o.dst v) w) : wpList P ops Q (o :: rest) a w := by
  refine wpList_plain hg fun _ hK => ?_
  unfold Oper.wp execOp
  simp only [ho, Sem.run_bind]
  have e : (#[(0, x), (1, y)] : Array (Nat × Operand)).map (fun (i, x) => (i, a.eval x)) = #[(0, vx), (1, vy)] := by simp [hx, hy]
  rw [e, hrun]
  exact hK _ _ h
theorem wpList_bs1 {P : Program} {ops : Array Oper} {rest : List Oper} {o : Oper} {a : Act} {w w' : World} {Q : Exit → Act → World → Prop} (hg : o.guard = none) (t : TypeId) (x : Operand) (ho : o.op = .buildSlice t 1 #[(0, x)])
    (vx v : Value) (hx : a.eval x = vx) (hrun : (Instr.buildSlice t 1 #[(0, vx)]).run P w = .ok v w')
    (h : wpList P ops Q rest (a.put o.dst v) w') : wpList P ops Q (o :: rest) a w := by
  refine wpList_plain hg fun _ hK => ?_
  unfold Oper.wp execOp
  simp only [ho, Sem.run_bind]
  have e : (#[(0, x)] : Array (Nat × Operand)).map (fun (i, x) => (i, a.eval x)) = #[(0, vx)] := by simp [hx]
  rw [e, hrun]
  exact hK _ _ h
theorem wpList_bs2 {P : Program} {ops : Array Oper} {rest : List Oper} {o : Oper} {a : Act} {w w' : World} {Q : Exit → Act → World → Prop} (hg : o.guard = none) (t : TypeId) (x y : Operand) (ho : o.op = .buildSlice t 2 #[(0, x), (1, y)])
    (vx vy v : Value) (hx : a.eval x = vx) (hy : a.eval y = vy) (hrun : (Instr.buildSlice t 2 #[(0, vx), (1, vy)]).run P w = .ok v w')
    (h : wpList P ops Q rest (a.put o.dst v) w') : wpList P ops Q (o :: rest) a w := by
  refine wpList_plain hg fun _ hK => ?_
  unfold Oper.wp execOp
  simp only [ho, Sem.run_bind]
  have e : (#[(0, x), (1, y)] : Array (Nat × Operand)).map (fun (i, x) => (i, a.eval x)) = #[(0, vx), (1, vy)] := by simp [hx, hy]
  rw [e, hrun]
  exact hK _ _ h

end Go.Proofs.Qxb6615018a
