/-
  NARROWER THAN 'FOR EVERY INPUT', by the rows' own cells (each row's printed sentence says how): FnDecoderUintReadsInTwoStepsAsInOne: ifaces, laid · FnDecoderUintScriptGivesBackTheBytes: ifaces, laid · FnJoinedPartReadsThePiecesInTurn: laid.
  DERIVED. THE GIVEN ROWS OF THIS SEAT. 3 by the template 'for every input the law returns true; each argument reads behind the call as it read before'; 0 by the template 'total and deterministic' (their statements: Qxb6615018aDoorTotals.lean).
  GIVEN WITH THE SEED: the statements are not yours to turn. If you find one false, say at which input.
  Laid BY PROGRAM, IN A SANDBOX (cutbox-rows.mjs): the forced cells as the released guide's own fill.sh prints them over the translation 5243767714218d0c… (all of the seat's roots in one cut). By AI agents, Wed Nov 11 2026. No macro, syntax, notation, axiom, sorry.
-/
import Derived.Test.Qxb6615018aDoorChecked
import GoSem.Claim
import GoSem.ClaimJoined
import GoSem.ClaimMapViews
import Derived.JoinedTies
import Derived.KernelRfl
namespace Go.Proofs.Qxb6615018aDoor
/- THE CELL 'sum', in the pinned program and in every row, IS THE sha256 OF THE DUMP (.gsa) THAT Qxb6615018aDoorProg.lean LOADS. Nothing in Lean hashes anything: it is a label: what it is worth is what the hold of that sum in a sandbox is worth. -/
noncomputable def Tryd.pinned : Pinned := { name := "qxb6615018adoor", sum := "5243767714218d0cd9affe756206df46ff9eb96106be8a373e5c2b59161d7dd4", checked := Tryd.checked }
namespace Rows
def none {H : Type} : Left H := { results := [], args := [] }

/- WHAT THE LISTED PACKAGE-LEVEL VARIABLES READ AS WHEN THE CALL BEGINS. Each datum BY PROGRAM (the guide's laid-datum.mjs) off the statement by which the dump's own 'gosem.cut.vars' lays the variable. In a bare row this is a premise. The card (Qxb6615018aDoorCards.lean) ties it to the program's text. -/
def laid_example_com_cellwright_cellwright_cellsync_errShort {H : Type} : DataW H := .iface "*errors.errorString" (.ptr (.agg [.lit (.string [105, 110, 112, 117, 116, 32, 101, 110, 100, 115, 32, 105, 110, 115, 105, 100, 101, 32, 97, 32, 115, 116, 114, 117, 99, 116, 117, 114, 101])]))
def laid_io_EOF {H : Type} : DataW H := .iface "*errors.errorString" (.ptr (.agg [.lit (.string [69, 79, 70])]))

/-- 'zzlaws_cellsync_b1.FnDecoderUintReadsInTwoStepsAsInOne': WHATEVER THE INPUT: true; the input reads as it did. -/
def fnDecoderUintReadsInTwoStepsAsInOneSpec : ChangeSpec := { name := "fnDecoderUintReadsInTwoStepsAsInOne", vars := ["example.com/cellwright/cellwright/cellsync.errShort"], fn := fun _ => fun
  | [d1, d2, d3, g1] => { results := [.lit (.bool true)], args := [d1, d2, d3], vars := [g1] }
  | _ => none }
def fnDecoderUintReadsInTwoStepsAsInOneRow : OpenClaim := { program := "qxb6615018adoor", sum := "5243767714218d0cd9affe756206df46ff9eb96106be8a373e5c2b59161d7dd4", func := "example.com/cellwright/cellwright/zzlaws_cellsync_b1.FnDecoderUintReadsInTwoStepsAsInOne", spec := "fnDecoderUintReadsInTwoStepsAsInOne", named := ["example.com/cellwright/cellwright/cellsync.errShort"], ifaces := true, apart := false, laid := [("example.com/cellwright/cellwright/cellsync.errShort", laid_example_com_cellwright_cellwright_cellsync_errShort)] }
def FnDecoderUintReadsInTwoStepsAsInOneSaid : Prop := fnDecoderUintReadsInTwoStepsAsInOneRow.holds Tryd.pinned (OpenSpec.ofChange fnDecoderUintReadsInTwoStepsAsInOneSpec)

/-- ITS FALSE NEIGHBOUR: 'it returns false'. Refute it at one input. -/
def fnDecoderUintReadsInTwoStepsAsInOneWrong : ChangeSpec := { name := "fnDecoderUintReadsInTwoStepsAsInOne", vars := ["example.com/cellwright/cellwright/cellsync.errShort"], fn := fun _ => fun
  | [d1, d2, d3, g1] => { results := [.lit (.bool false)], args := [d1, d2, d3], vars := [g1] }
  | _ => none }
def FnDecoderUintReadsInTwoStepsAsInOneWrongFalsely : Prop := fnDecoderUintReadsInTwoStepsAsInOneRow.holds Tryd.pinned (OpenSpec.ofChange fnDecoderUintReadsInTwoStepsAsInOneWrong)

/-- 'zzlaws_cellsync_b1.FnDecoderUintScriptGivesBackTheBytes': WHATEVER THE INPUT: true; the input reads as it did. -/
def fnDecoderUintScriptGivesBackTheBytesSpec : ChangeSpec := { name := "fnDecoderUintScriptGivesBackTheBytes", vars := ["example.com/cellwright/cellwright/cellsync.errShort"], fn := fun _ => fun
  | [d1, d2, g1] => { results := [.lit (.bool true)], args := [d1, d2], vars := [g1] }
  | _ => none }
def fnDecoderUintScriptGivesBackTheBytesRow : OpenClaim := { program := "qxb6615018adoor", sum := "5243767714218d0cd9affe756206df46ff9eb96106be8a373e5c2b59161d7dd4", func := "example.com/cellwright/cellwright/zzlaws_cellsync_b1.FnDecoderUintScriptGivesBackTheBytes", spec := "fnDecoderUintScriptGivesBackTheBytes", named := ["example.com/cellwright/cellwright/cellsync.errShort"], ifaces := true, apart := false, laid := [("example.com/cellwright/cellwright/cellsync.errShort", laid_example_com_cellwright_cellwright_cellsync_errShort)] }
def FnDecoderUintScriptGivesBackTheBytesSaid : Prop := fnDecoderUintScriptGivesBackTheBytesRow.holds Tryd.pinned (OpenSpec.ofChange fnDecoderUintScriptGivesBackTheBytesSpec)

/-- ITS FALSE NEIGHBOUR: 'it returns false'. Refute it at one input. -/
def fnDecoderUintScriptGivesBackTheBytesWrong : ChangeSpec := { name := "fnDecoderUintScriptGivesBackTheBytes", vars := ["example.com/cellwright/cellwright/cellsync.errShort"], fn := fun _ => fun
  | [d1, d2, g1] => { results := [.lit (.bool false)], args := [d1, d2], vars := [g1] }
  | _ => none }
def FnDecoderUintScriptGivesBackTheBytesWrongFalsely : Prop := fnDecoderUintScriptGivesBackTheBytesRow.holds Tryd.pinned (OpenSpec.ofChange fnDecoderUintScriptGivesBackTheBytesWrong)

/-- 'zzlaws_cellsync_b1.FnJoinedPartReadsThePiecesInTurn': WHATEVER THE INPUT: true; the input reads as it did. -/
def fnJoinedPartReadsThePiecesInTurnSpec : ChangeSpec := { name := "fnJoinedPartReadsThePiecesInTurn", fn := fun _ => fun
  | [d1, d2, d3] => { results := [.lit (.bool true)], args := [d1, d2, d3] }
  | _ => none }
def fnJoinedPartReadsThePiecesInTurnRow : OpenClaim := { program := "qxb6615018adoor", sum := "5243767714218d0cd9affe756206df46ff9eb96106be8a373e5c2b59161d7dd4", func := "example.com/cellwright/cellwright/zzlaws_cellsync_b1.FnJoinedPartReadsThePiecesInTurn", spec := "fnJoinedPartReadsThePiecesInTurn", unfollowed := true, recurses := true, named := ["io.EOF"], apart := false, laid := [("io.EOF", laid_io_EOF)] }
def FnJoinedPartReadsThePiecesInTurnSaid : Prop := fnJoinedPartReadsThePiecesInTurnRow.holds Tryd.pinned (OpenSpec.ofChange fnJoinedPartReadsThePiecesInTurnSpec)

/-- ITS FALSE NEIGHBOUR: 'it returns false'. Refute it at one input. -/
def fnJoinedPartReadsThePiecesInTurnWrong : ChangeSpec := { name := "fnJoinedPartReadsThePiecesInTurn", fn := fun _ => fun
  | [d1, d2, d3] => { results := [.lit (.bool false)], args := [d1, d2, d3] }
  | _ => none }
def FnJoinedPartReadsThePiecesInTurnWrongFalsely : Prop := fnJoinedPartReadsThePiecesInTurnRow.holds Tryd.pinned (OpenSpec.ofChange fnJoinedPartReadsThePiecesInTurnWrong)

end Rows
end Go.Proofs.Qxb6615018aDoor
