/-
  No cell of these rows narrows 'for every input' (looked for: loops, veiled, ifaces, maps, wideKeys, modest, calm, conditions, laid).
  DERIVED. THE GIVEN ROWS OF THIS SEAT. 3 by the template 'for every input the law returns true; each argument reads behind the call as it read before'; 0 by the template 'total and deterministic' (their statements: Qxb6615018aTotals.lean).
  GIVEN WITH THE SEED: the statements are not yours to turn. If you find one false, say at which input.
  Laid BY PROGRAM, IN A SANDBOX (cutbox-rows.mjs): the forced cells as the released guide's own fill.sh prints them over the translation d68cca8b707881f9… (all of the seat's roots in one cut). By AI agents, Wed Nov 11 2026. No macro, syntax, notation, axiom, sorry.
-/
import Derived.Test.Qxb6615018aChecked
import GoSem.Claim
import GoSem.ClaimJoined
import GoSem.ClaimMapViews
import Derived.JoinedTies
import Derived.KernelRfl
namespace Go.Proofs.Qxb6615018a
/- THE CELL 'sum', in the pinned program and in every row, IS THE sha256 OF THE DUMP (.gsa) THAT Qxb6615018aProg.lean LOADS. Nothing in Lean hashes anything: it is a label: what it is worth is what the hold of that sum in a sandbox is worth. -/
noncomputable def Try.pinned : Pinned := { name := "qxb6615018a", sum := "d68cca8b707881f9e0b5a8482a483fd4874594309b3611b195608d9ac8cffa52", checked := Try.checked }
namespace Rows
def none {H : Type} : Left H := { results := [], args := [] }

/-- 'zzlaws_cellsync_b1.FnStorageIndexSerialsOfRunningIDsRunOn': WHATEVER THE INPUT: true; the input reads as it did. -/
def fnStorageIndexSerialsOfRunningIDsRunOnSpec : ChangeSpec := { name := "fnStorageIndexSerialsOfRunningIDsRunOn", fn := fun _ => fun
  | [d1, d2, d3] => { results := [.lit (.bool true)], args := [d1, d2, d3] }
  | _ => none }
def fnStorageIndexSerialsOfRunningIDsRunOnRow : OpenClaim := { program := "qxb6615018a", sum := "d68cca8b707881f9e0b5a8482a483fd4874594309b3611b195608d9ac8cffa52", func := "example.com/cellwright/cellwright/zzlaws_cellsync_b1.FnStorageIndexSerialsOfRunningIDsRunOn", spec := "fnStorageIndexSerialsOfRunningIDsRunOn", inPlace := ["internal/bytealg.Compare", "slices.overlaps[*example.com/cellwright/cellwright/cellsync.rangeBlock]"], unfollowed := true, recurses := true, apart := false }
def FnStorageIndexSerialsOfRunningIDsRunOnSaid : Prop := fnStorageIndexSerialsOfRunningIDsRunOnRow.holds Try.pinned (OpenSpec.ofChange fnStorageIndexSerialsOfRunningIDsRunOnSpec)

/-- ITS FALSE NEIGHBOUR: 'it returns false'. Refute it at one input. -/
def fnStorageIndexSerialsOfRunningIDsRunOnWrong : ChangeSpec := { name := "fnStorageIndexSerialsOfRunningIDsRunOn", fn := fun _ => fun
  | [d1, d2, d3] => { results := [.lit (.bool false)], args := [d1, d2, d3] }
  | _ => none }
def FnStorageIndexSerialsOfRunningIDsRunOnWrongFalsely : Prop := fnStorageIndexSerialsOfRunningIDsRunOnRow.holds Try.pinned (OpenSpec.ofChange fnStorageIndexSerialsOfRunningIDsRunOnWrong)

/-- 'zzlaws_cellsync_b1.FnAddAllHoldsTheRunsOfAllAdded': WHATEVER THE INPUT: true; the input reads as it did. -/
def fnAddAllHoldsTheRunsOfAllAddedSpec : ChangeSpec := { name := "fnAddAllHoldsTheRunsOfAllAdded", fn := fun _ => fun
  | [d1, d2] => { results := [.lit (.bool true)], args := [d1, d2] }
  | _ => none }
def fnAddAllHoldsTheRunsOfAllAddedRow : OpenClaim := { program := "qxb6615018a", sum := "d68cca8b707881f9e0b5a8482a483fd4874594309b3611b195608d9ac8cffa52", func := "example.com/cellwright/cellwright/zzlaws_cellsync_b1.FnAddAllHoldsTheRunsOfAllAdded", spec := "fnAddAllHoldsTheRunsOfAllAdded", inPlace := ["internal/bytealg.Compare", "slices.overlaps[*example.com/cellwright/cellwright/cellsync.rangeBlock]"], unfollowed := true, recurses := true, apart := false }
def FnAddAllHoldsTheRunsOfAllAddedSaid : Prop := fnAddAllHoldsTheRunsOfAllAddedRow.holds Try.pinned (OpenSpec.ofChange fnAddAllHoldsTheRunsOfAllAddedSpec)

/-- ITS FALSE NEIGHBOUR: 'it returns false'. Refute it at one input. -/
def fnAddAllHoldsTheRunsOfAllAddedWrong : ChangeSpec := { name := "fnAddAllHoldsTheRunsOfAllAdded", fn := fun _ => fun
  | [d1, d2] => { results := [.lit (.bool false)], args := [d1, d2] }
  | _ => none }
def FnAddAllHoldsTheRunsOfAllAddedWrongFalsely : Prop := fnAddAllHoldsTheRunsOfAllAddedRow.holds Try.pinned (OpenSpec.ofChange fnAddAllHoldsTheRunsOfAllAddedWrong)

/-- 'zzlaws_cellsync_b1.FnAddAllInTwoBatchesAtAnyCut': WHATEVER THE INPUT: true; the input reads as it did. -/
def fnAddAllInTwoBatchesAtAnyCutSpec : ChangeSpec := { name := "fnAddAllInTwoBatchesAtAnyCut", fn := fun _ => fun
  | [d1, d2] => { results := [.lit (.bool true)], args := [d1, d2] }
  | _ => none }
def fnAddAllInTwoBatchesAtAnyCutRow : OpenClaim := { program := "qxb6615018a", sum := "d68cca8b707881f9e0b5a8482a483fd4874594309b3611b195608d9ac8cffa52", func := "example.com/cellwright/cellwright/zzlaws_cellsync_b1.FnAddAllInTwoBatchesAtAnyCut", spec := "fnAddAllInTwoBatchesAtAnyCut", inPlace := ["internal/bytealg.Compare", "slices.overlaps[*example.com/cellwright/cellwright/cellsync.rangeBlock]"], unfollowed := true, recurses := true, apart := false }
def FnAddAllInTwoBatchesAtAnyCutSaid : Prop := fnAddAllInTwoBatchesAtAnyCutRow.holds Try.pinned (OpenSpec.ofChange fnAddAllInTwoBatchesAtAnyCutSpec)

/-- ITS FALSE NEIGHBOUR: 'it returns false'. Refute it at one input. -/
def fnAddAllInTwoBatchesAtAnyCutWrong : ChangeSpec := { name := "fnAddAllInTwoBatchesAtAnyCut", fn := fun _ => fun
  | [d1, d2] => { results := [.lit (.bool false)], args := [d1, d2] }
  | _ => none }
def FnAddAllInTwoBatchesAtAnyCutWrongFalsely : Prop := fnAddAllInTwoBatchesAtAnyCutRow.holds Try.pinned (OpenSpec.ofChange fnAddAllInTwoBatchesAtAnyCutWrong)

end Rows
end Go.Proofs.Qxb6615018a
