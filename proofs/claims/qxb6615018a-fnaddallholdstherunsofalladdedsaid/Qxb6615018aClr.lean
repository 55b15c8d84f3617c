/-
  DERIVED. clear on a row of blocks.
-/
import Derived.Test.Qxb6615018aIns2
import Derived.Lib.SliceRun
namespace Go.Proofs.Qxb6615018a
open Go.RowKit Go.Sort

/-- 'clear(s)' for the walk, where its run is known by an equation. -/
theorem wp_clear_run {P : Program} (w : World) {o : Oper} {a : Act} {K : Act → World → Prop} {Q : Exit → Act → World → Prop} (x : Operand) (t : TypeId)
    (ho : o.op = .call { callee := .builtin .clear, args := #[x], argTypes := #[t] }) (v : Value) (hx : a.eval x = v) {v' : Value} {w' : World}
    (hr : (Builtin.clear_ #[t] o.type #[v]).run P w = .ok v' w') (h : K (a.put o.dst v') w') : o.wp P a w K Q := by
  unfold Oper.wp execOp
  simp only [ho, resolve, invoke, builtin, Sem.run_bind, Sem.run_pure, Result.andThen_ok, List.map_toArray, List.map_cons, List.map_nil, hx, hr]
  exact h
theorem wpList_clear_run {P : Program} (w : World) {ops : Array Oper} {rest : List Oper} {o : Oper} {a : Act} {Q : Exit → Act → World → Prop} (hgd : o.guard = none) (x : Operand) (t : TypeId)
    (ho : o.op = .call { callee := .builtin .clear, args := #[x], argTypes := #[t] }) (v : Value) (hx : a.eval x = v) {v' : Value} {w' : World}
    (hr : (Builtin.clear_ #[t] o.type #[v]).run P w = .ok v' w') (h : wpList P ops Q rest (a.put o.dst v') w') : wpList P ops Q (o :: rest) a w :=
  wpList_plain hgd fun _ hK => wp_clear_run w x t ho v hx hr (hK _ _ h)

/-- A stretch cleared. -/
theorem clear_row (W : World) (ty : TypeId) (g o n c : Nat) (hn : 0 < n) (F : Array Value) (hg : W.heap[g]? = some (.cells F 66 (0, 0))) (hF : o + n ≤ F.size) :
    (Builtin.clear_ #[58] ty #[.slice (some ⟨g, o, none⟩) n c]).run Try.prog W = .ok (.tuple #[]) (W.setCells g o (List.replicate n (.pointer none))) :=
  Lib.run_clear_slice W 58 66 ty (.pointer none) Try.underlying58 (fun w => by simp [go_sem]) rfl rfl g o n c hn (fun j hj => by simp [World.cell?, hg, show o + j < F.size by omega]) (fun j _ => by simp [World.frozen?, hg])
end Go.Proofs.Qxb6615018a
