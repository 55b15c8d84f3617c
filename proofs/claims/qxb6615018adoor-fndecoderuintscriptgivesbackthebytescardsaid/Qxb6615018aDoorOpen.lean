/-
  DERIVED. What the row's conditions give the walks of both decoder laws; the witness's world.
-/
import Derived.Test.Qxb6615018aDoorRows
import Derived.Test.Qxb6615018aDoorSt
import Derived.ProofKit
import Derived.LaidMore
import Derived.OpenShut
import Derived.ShutString
import Derived.ChangeOld
import Derived.Below
import Derived.Stop.LaidErr
import Derived.Stop.Joined
namespace Go.Proofs.Qxb6615018aDoor
open Go.ChangeShapes Go.WideShapes Go.ChangeAt Go.RowKit

theorem own : ownKnob Tryd.prog.godebug = none := by kernel_rfl
theorem laidOut : laidOutB Tryd.prog = true := by kernel_rfl
/-- The listed variable's name. -/
def nmShort : String := Rows.fnDecoderUintReadsInTwoStepsAsInOneSpec.vars.headD ""
/-- The name of the dynamic type of what it holds. -/
def nmType : DataW Unit → String
  | .iface n _ => n
  | _ => ""
def nmErr : String := nmType Rows.laid_example_com_cellwright_cellwright_cellsync_errShort
theorem gShort : Tryd.prog.globalNamed nmShort = some 1 := by kernel_rfl
theorem tShort : (Tryd.prog.globals[1]?).map (·.type) = some 31 := by kernel_rfl
theorem Tryd.cells102 : Tryd.prog.cellsOf 102 = 1 := by kernel_rfl
theorem Tryd.cells9 : Tryd.prog.cellsOf 9 = 1 := by kernel_rfl
theorem rows78 : ((List.range Tryd.prog.types.size).all fun u => Tryd.prog.typeName? 3 u != some nmErr || u == 78) = true := by kernel_rfl
theorem nmErr_eq : String.singleton (Char.ofNat 42) ++ "errors.errorString" = nmErr := by decide
theorem row78 (u : TypeId) (h : Tryd.prog.typeName? 3 u = some nmErr) : u = 78 :=
  typeName_ptr_named (nm := "errors.errorString") (by have e := nmErr_eq; exact (congrArg (fun s : String => ((List.range Tryd.prog.types.size).all fun u => Tryd.prog.typeName? 3 u != some s || u == 78)) e).trans rows78) (by kernel_rfl) (by decide) u (h.trans (congrArg some nmErr_eq.symm))

/-- The one listed variable. -/
def laid1 : List (String × DataW Unit) := Rows.fnDecoderUintReadsInTwoStepsAsInOneRow.laid

/-- The door's own heap meets the condition. -/
theorem door_met (os : Os) (args : Array Value) : laidMetH Tryd.prog laid1 ((World.doorLaid Tryd.prog 66 os).forCall (fun _ _ => 0) ⟨#[], args, []⟩).memory :=
  laidMetH_of_parts3 (fuel := 8) (laidMet_of_run' 8 (by kernel_rfl) (by kernel_rfl)) (by kernel_rfl) (by kernel_rfl)

/-- WHAT THE CONDITION GIVES THE WALKS: the sentinel's cell. -/
theorem of_laid {W : World} (h : laidMetH Tryd.prog laid1 W) : ∃ a, W.var? Tryd.prog nmShort = some #[.iface 78 (.pointer (some a))] ∧ W.cell? ⟨1, 0, none⟩ = some (.iface 78 (.pointer (some a))) := by
  rw [MakeChecks.laidMetH_plain _ _ _ (by kernel_rfl)] at h
  obtain ⟨a1, s1, hv1, _, _, _⟩ := laid_sentinel h gShort tShort Tryd.underlying31 row78 Tryd.underlying78 Tryd.underlying102 rfl rfl Tryd.underlying9 Tryd.cells102 Tryd.cells9
  exact ⟨a1, hv1, by simpa using World.var?_cell gShort hv1 0⟩

/-- What a slice of bytes that came in gives the walks. -/
theorem bytes_in {H : Type} {enc : TypeId × Value → H} {W : World} {a : Option Addr} {len cap : Nat} {d : DataW H} {p : List MemPlace} (h : DataW.Trod enc Tryd.prog W 0 (fun _ => true) true 22 (.slice a len cap) d p) :
    ∃ ys : List Int, ys.length = len ∧ Reads W a ys ∧ (a = none → len = 0 ∧ cap = 0) ∧ ∀ z ∈ ys, 0 ≤ z ∧ z < 256 := by
  obtain ⟨fuel, hf⟩ := h
  rcases open_ints Tryd.underlying22 Tryd.underlying5 (by kernel_rfl) hf with ⟨hcs, _⟩ | ⟨x, l, c, zs, hcs, _, hl, hm, hz, _, hcell, hwz⟩
  · simp [Value.cells] at hcs
    obtain ⟨rfl, rfl, rfl⟩ := hcs
    exact ⟨[], rfl, fun i hi => absurd hi (by simp), fun _ => ⟨rfl, rfl⟩, by simp⟩
  · simp [Value.cells] at hcs
    obtain ⟨rfl, rfl, rfl⟩ := hcs
    have hzl : zs.length = cap := by simpa using hz
    refine ⟨zs.take len, by simp; omega, ?_, by simp, ?_⟩
    · intro i hi
      have hi2 : i < len ∧ i < zs.length := by simp at hi; omega
      have hc := hcell i hi2.2
      obtain ⟨b, off, spot⟩ := x
      have hspot : spot = none := by simpa [Addr.add] using World.cell?_spot (hcell 0 (by omega))
      subst hspot
      refine ⟨b, off, rfl, ?_⟩
      have e : (zs.take len).getD i 0 = zs.getD i 0 := by simp [hi2.1]
      rw [e, ← add_plain]
      exact hc
    · intro z hzm
      have := bounds_u8 (hwz z (List.mem_of_mem_take hzm))
      omega
end Go.Proofs.Qxb6615018aDoor
