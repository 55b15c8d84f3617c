/-
  DERIVED. The law's four slices: members, starts, names, numbers.
-/
import Derived.Test.Qxb6615634aSz
import Derived.Test.Qxb6615634aPl2
namespace Go.Proofs.Qxb6615634a
open Go.RowKit Go.Sort

theorem wpList_bs1 {P : Program} {ops : Array Oper} {rest : List Oper} {o : Oper} {a : Act} {w w' : World} {Q : Exit → Act → World → Prop} (hg : o.guard = none) (t : TypeId) (x : Operand) (ho : o.op = .buildSlice t 1 #[(0, x)])
    (vx v : Value) (hx : a.eval x = vx) (hrun : (Instr.buildSlice t 1 #[(0, vx)]).run P w = .ok v w')
    (h : wpList P ops Q rest (a.put o.dst v) w') : wpList P ops Q (o :: rest) a w := by
  refine wpList_plain hg fun _ hK => ?_
  unfold Oper.wp execOp
  simp only [ho, Sem.run_bind]
  have e : (#[(0, x)] : Array (Nat × Operand)).map (fun (i, x) => (i, a.eval x)) = #[(0, vx)] := by simp [hx]
  rw [e, hrun]
  exact hK _ _ h

theorem bs26_x (x0 x1 x2 x3 x4 x5 x6 x7 x8 x9 x10 x11 x12 x13 x14 x15 x16 x17 x18 x19 x20 x21 x22 x23 x24 x25 x26 x27 x28 x29 x30 x31 : Value) (w : World) : (Instr.buildSlice 26 1 #[(0, .agg #[x0, x1, x2, x3, x4, x5, x6, x7, x8, x9, x10, x11, x12, x13, x14, x15, x16, x17, x18, x19, x20, x21, x22, x23, x24, x25, x26, x27, x28, x29, x30, x31])]).run Try.prog w = .ok (.slice (some ⟨w.heap.size, 0, none⟩) 1 1) (w.alloc (.cells #[x0, x1, x2, x3, x4, x5, x6, x7, x8, x9, x10, x11, x12, x13, x14, x15, x16, x17, x18, x19, x20, x21, x22, x23, x24, x25, x26, x27, x28, x29, x30, x31] 27)) := by kernel_rfl
theorem bs26 (id : Id) (w : World) : (Instr.buildSlice 26 1 #[(0, .agg (encI id).toArray)]).run Try.prog w = .ok (.slice (some ⟨w.heap.size, 0, none⟩) 1 1) (w.alloc (.cells (encI id).toArray 27)) := by
  obtain ⟨x0, x1, x2, x3, x4, x5, x6, x7, x8, x9, x10, x11, x12, x13, x14, x15, x16, x17, x18, x19, x20, x21, x22, x23, x24, x25, x26, x27, x28, x29, x30, x31, h⟩ := list32 (encI id) (encI_length id)
  rw [h]
  exact bs26_x x0 x1 x2 x3 x4 x5 x6 x7 x8 x9 x10 x11 x12 x13 x14 x15 x16 x17 x18 x19 x20 x21 x22 x23 x24 x25 x26 x27 x28 x29 x30 x31 w

theorem Try.info9 : (Try.prog.info? 9).map (fun i => (i.zero, i.size, i.bytes)) = some (some (.string .empty), 1, 16) := by kernel_rfl
theorem Try.info3 : (Try.prog.info? 3).map (fun i => (i.zero, i.size, i.bytes)) = some (some (.int .i64 0), 1, 8) := by kernel_rfl
theorem Try.info23 : (Try.prog.info? 23).map (fun i => (i.zero, i.size, i.bytes)) = some (some (.int .u64 0), 1, 8) := by kernel_rfl
theorem Try.info27 : (Try.prog.info? 27).map (fun i => (i.zero, i.size, i.bytes)) = some (some (.agg (encI (Vector.replicate 32 0)).toArray), 32, 32) := by kernel_rfl

/-- A row of another type stays. -/
theorem own_keep {w w' : World} {B B' : Nat} {e e' : TypeId} {size size' n n' : Nat} {v v' : Value} {xs xs' : List Value} (hg : w.grownBy w' v.ownBlock) (ho : w.ownsRow B e size v n xs) (ho' : w.ownsRow B' e' size' v' n' xs') (hne : e ≠ e') : w'.ownsRow B' e' size' v' n' xs' := by
  refine ownsRow_block ho' (fun g hg' => hg.block g (ho'.lt g hg').2 (fun hh => ?_))
  rcases ho.2 with ⟨rfl, _⟩ | ⟨g1, cap, cur, rfl, _, h2, _⟩
  · cases hh
  · rcases ho'.2 with ⟨rfl, _⟩ | ⟨g2, cap2, cur2, rfl, _, h3, _⟩
    · cases hg'
    · simp only [Value.ownBlock, Option.some.injEq] at hh hg'
      subst hh; subst hg'
      exact hne (cells_ty h2 h3)
theorem own_below {w w0 w' : World} {B : Nat} {e : TypeId} {size n : Nat} {v : Value} {xs : List Value} (h : Below B w0 w) (hg : w.grownBy w' v.ownBlock) (ho : w.ownsRow B e size v n xs) (hB : B ≤ w.heap.size) : Below B w0 w' :=
  ⟨hg.os.trans h.os, hg.tape.trans h.tape, hg.output.trans h.output, Nat.le_trans h.size hg.size, fun k hk => (hg.block k (by omega) (fun e => by have := (ho.lt k e.symm).1; omega)).trans (h.block k hk)⟩

def flatI (E : List (Id × UInt64)) : List Value := E.flatMap (fun e => encI e.1)
theorem flatI_length (E : List (Id × UInt64)) : (flatI E).length = E.length * 32 := by
  induction E with
  | nil => rfl
  | cons e E ih => simp only [flatI, List.flatMap_cons, List.length_append, encI_length, List.length_cons] at ih ⊢; omega
theorem flatI_get : ∀ (E : List (Id × UInt64)) (i : Nat) (hi : i < E.length) (j : Nat) (_ : j < 32), (flatI E)[i * 32 + j]? = (encI E[i].1)[j]?
  | e :: E, 0, _, j, hj => by
    rw [flatI, List.flatMap_cons, Nat.zero_mul, Nat.zero_add, List.getElem?_append_left (by rw [encI_length]; exact hj)]; rfl
  | e :: E, i + 1, hi, j, hj => by
    rw [flatI, List.flatMap_cons, List.getElem?_append_right (by rw [encI_length]; omega), encI_length, show (i + 1) * 32 + j - 32 = i * 32 + j by omega]
    exact flatI_get E i (by simpa using hi) j hj
def numV (e : Id × UInt64) : Value := .int .u64 (e.2.toNat : Int)
def stV (k : Nat) : Value := .int .i64 (k : Int)

/-- The four slices. -/
structure Rows4 (B : Nat) (w : World) (M : List ByteArray) (ST : List Nat) (E EN : List (Id × UInt64)) (vm vs vi vn : Value) : Prop where
  mems : w.ownsRow B 9 1 vm M.length (M.map Value.string)
  sts : w.ownsRow B 3 1 vs ST.length (ST.map stV)
  ids : w.ownsRow B 27 32 vi E.length (flatI E)
  nums : w.ownsRow B 23 1 vn EN.length (EN.map numV)
theorem Rows4.below {B : Nat} {w w' : World} {M : List ByteArray} {ST : List Nat} {E EN : List (Id × UInt64)} {vm vs vi vn : Value} (h : Rows4 B w M ST E EN vm vs vi vn) (hb : ∀ b, B ≤ b → b < w.heap.size → w'.heap[b]? = w.heap[b]?) : Rows4 B w' M ST E EN vm vs vi vn :=
  ⟨ownsRow_block h.mems (fun g hg => hb g (h.mems.lt g hg).1 (h.mems.lt g hg).2), ownsRow_block h.sts (fun g hg => hb g (h.sts.lt g hg).1 (h.sts.lt g hg).2), ownsRow_block h.ids (fun g hg => hb g (h.ids.lt g hg).1 (h.ids.lt g hg).2), ownsRow_block h.nums (fun g hg => hb g (h.nums.lt g hg).1 (h.nums.lt g hg).2)⟩
theorem Rows4.start (B : Nat) (w : World) : Rows4 B w [] [] [] [] (.slice none 0 0) (.slice none 0 0) (.slice none 0 0) (.slice none 0 0) :=
  ⟨World.ownsRow_nil _ _ _ _, World.ownsRow_nil _ _ _ _, World.ownsRow_nil _ _ _ _, World.ownsRow_nil _ _ _ _⟩

/-- One cell read. -/
theorem own_cell {w : World} {B e n : Nat} {v : Value} {xs : List Value} (h : w.ownsRow B e 1 v n xs) (i : Nat) (hi : i < n) : ∃ g c, v = .slice (some ⟨g, 0, none⟩) n c ∧ w.cell? ⟨g, i, none⟩ = xs[i]? := by
  rcases h.2 with ⟨_, h0⟩ | ⟨g, cap, cur, rfl, _⟩
  · omega
  · exact ⟨g, cap, rfl, h.cellAt i (by omega)⟩
section
variable {B : Nat} {w5 w8 w9 : World} {M : List ByteArray} {ST : List Nat} {E EN : List (Id × UInt64)} {vm vs vi vn v' : Value}
theorem alloc_below (w : World) (X : Obj) : Below w.heap.size w (w.alloc X) := (Below.refl _ _).alloc (Nat.le_refl _) _
theorem rows_m {m : ByteArray} (h : Rows4 B w8 M ST E EN vm vs vi vn) (hb : Below B w5 w8) (hB : B ≤ w8.heap.size) (X : Obj) (ho : w9.ownsRow B 9 1 v' (M.length + 1) (M.map Value.string ++ [.string m])) (hg : (w8.alloc X).grownBy w9 vm.ownBlock) : Rows4 B w9 (M ++ [m]) ST E EN v' vs vi vn ∧ Below B w5 w9 ∧ B ≤ w9.heap.size := by
  have ha : B ≤ (w8.alloc X).heap.size := by simp; omega
  refine ⟨⟨by rw [List.length_append, List.map_append]; exact ho, own_keep hg (h.mems.alloc X) (h.sts.alloc X) (by decide), own_keep hg (h.mems.alloc X) (h.ids.alloc X) (by decide), own_keep hg (h.mems.alloc X) (h.nums.alloc X) (by decide)⟩, own_below (hb.alloc hB X) hg (h.mems.alloc X) ha, Nat.le_trans ha hg.size⟩
theorem rows_s {k : Nat} (h : Rows4 B w8 M ST E EN vm vs vi vn) (hb : Below B w5 w8) (hB : B ≤ w8.heap.size) (X : Obj) (ho : w9.ownsRow B 3 1 v' (ST.length + 1) (ST.map stV ++ [stV k])) (hg : (w8.alloc X).grownBy w9 vs.ownBlock) : Rows4 B w9 M (ST ++ [k]) E EN vm v' vi vn ∧ Below B w5 w9 ∧ B ≤ w9.heap.size := by
  have ha : B ≤ (w8.alloc X).heap.size := by simp; omega
  refine ⟨⟨own_keep hg (h.sts.alloc X) (h.mems.alloc X) (by decide), by rw [List.length_append, List.map_append]; exact ho, own_keep hg (h.sts.alloc X) (h.ids.alloc X) (by decide), own_keep hg (h.sts.alloc X) (h.nums.alloc X) (by decide)⟩, own_below (hb.alloc hB X) hg (h.sts.alloc X) ha, Nat.le_trans ha hg.size⟩
theorem rows_i {e : Id × UInt64} (h : Rows4 B w8 M ST E EN vm vs vi vn) (hb : Below B w5 w8) (hB : B ≤ w8.heap.size) (X : Obj) (ho : w9.ownsRow B 27 32 v' (E.length + 1) (flatI E ++ encI e.1)) (hg : (w8.alloc X).grownBy w9 vi.ownBlock) : Rows4 B w9 M ST (E ++ [e]) EN vm vs v' vn ∧ Below B w5 w9 ∧ B ≤ w9.heap.size := by
  have ha : B ≤ (w8.alloc X).heap.size := by simp; omega
  refine ⟨⟨own_keep hg (h.ids.alloc X) (h.mems.alloc X) (by decide), own_keep hg (h.ids.alloc X) (h.sts.alloc X) (by decide), by rw [List.length_append]; simpa [flatI] using ho, own_keep hg (h.ids.alloc X) (h.nums.alloc X) (by decide)⟩, own_below (hb.alloc hB X) hg (h.ids.alloc X) ha, Nat.le_trans ha hg.size⟩
theorem rows_n {e : Id × UInt64} (h : Rows4 B w8 M ST E EN vm vs vi vn) (hb : Below B w5 w8) (hB : B ≤ w8.heap.size) (X : Obj) (ho : w9.ownsRow B 23 1 v' (EN.length + 1) (EN.map numV ++ [numV e])) (hg : (w8.alloc X).grownBy w9 vn.ownBlock) : Rows4 B w9 M ST E (EN ++ [e]) vm vs vi v' ∧ Below B w5 w9 ∧ B ≤ w9.heap.size := by
  have ha : B ≤ (w8.alloc X).heap.size := by simp; omega
  refine ⟨⟨own_keep hg (h.nums.alloc X) (h.mems.alloc X) (by decide), own_keep hg (h.nums.alloc X) (h.sts.alloc X) (by decide), own_keep hg (h.nums.alloc X) (h.ids.alloc X) (by decide), by rw [List.length_append, List.map_append]; exact ho⟩, own_below (hb.alloc hB X) hg (h.nums.alloc X) ha, Nat.le_trans ha hg.size⟩
end
end Go.Proofs.Qxb6615634a
