/-
  No cell of these rows narrows 'for every input' (looked for: loops, veiled, ifaces, maps, wideKeys, modest, calm, conditions, laid).
  DERIVED. THE GIVEN ROWS OF THIS SEAT. 3 by the template 'for every input the law returns true; each argument reads behind the call as it read before'; 0 by the template 'total and deterministic' (their statements: Qxb6615634aTotals.lean).
  GIVEN WITH THE SEED: the statements are not yours to turn. If you find one false, say at which input.
  Laid BY PROGRAM, IN A SANDBOX (cutbox-rows.mjs): the forced cells as the released guide's own fill.sh prints them over the translation 7937e4539e5221a6… (all of the seat's roots in one cut). By AI agents, Wed Nov 11 2026. No macro, syntax, notation, axiom, sorry.
-/
import Derived.Test.Qxb6615634aChecked
import GoSem.Claim
import GoSem.ClaimJoined
import GoSem.ClaimMapViews
import Derived.JoinedTies
import Derived.KernelRfl
namespace Go.Proofs.Qxb6615634a
/- THE CELL 'sum', in the pinned program and in every row, IS THE sha256 OF THE DUMP (.gsa) THAT Qxb6615634aProg.lean LOADS. Nothing in Lean hashes anything: it is a label: what it is worth is what the hold of that sum in a sandbox is worth. -/
noncomputable def Try.pinned : Pinned := { name := "qxb6615634a", sum := "7937e4539e5221a609ab51d9f6891d8637f7f44459053cd005613686b37fa9ec", checked := Try.checked }
namespace Rows
def none {H : Type} : Left H := { results := [], args := [] }

/-- 'zzlaws_history_b1.FnFirstLineIsTheSameWhateverFollowsABreak': WHATEVER THE INPUT: true; the input reads as it did. -/
def fnFirstLineIsTheSameWhateverFollowsABreakSpec : ChangeSpec := { name := "fnFirstLineIsTheSameWhateverFollowsABreak", fn := fun _ => fun
  | [d1, d2, d3, d4, d5, d6, d7, d8, d9, d10, d11, d12] => { results := [.lit (.bool true)], args := [d1, d2, d3, d4, d5, d6, d7, d8, d9, d10, d11, d12] }
  | _ => none }
def fnFirstLineIsTheSameWhateverFollowsABreakRow : OpenClaim := { program := "qxb6615634a", sum := "7937e4539e5221a609ab51d9f6891d8637f7f44459053cd005613686b37fa9ec", func := "example.com/tributary/tributary/zzlaws_history_b1.FnFirstLineIsTheSameWhateverFollowsABreak", spec := "fnFirstLineIsTheSameWhateverFollowsABreak", inPlace := ["internal/bytealg.IndexByteString", "internal/bytealg.IndexString"], named := ["internal/bytealg.MaxLen"], plainKeys := false, apart := false }
def FnFirstLineIsTheSameWhateverFollowsABreakSaid : Prop := fnFirstLineIsTheSameWhateverFollowsABreakRow.holds Try.pinned (OpenSpec.ofChange fnFirstLineIsTheSameWhateverFollowsABreakSpec)

/-- ITS FALSE NEIGHBOUR: 'it returns false'. Refute it at one input. -/
def fnFirstLineIsTheSameWhateverFollowsABreakWrong : ChangeSpec := { name := "fnFirstLineIsTheSameWhateverFollowsABreak", fn := fun _ => fun
  | [d1, d2, d3, d4, d5, d6, d7, d8, d9, d10, d11, d12] => { results := [.lit (.bool false)], args := [d1, d2, d3, d4, d5, d6, d7, d8, d9, d10, d11, d12] }
  | _ => none }
def FnFirstLineIsTheSameWhateverFollowsABreakWrongFalsely : Prop := fnFirstLineIsTheSameWhateverFollowsABreakRow.holds Try.pinned (OpenSpec.ofChange fnFirstLineIsTheSameWhateverFollowsABreakWrong)

/-- 'zzlaws_history_b1.FnFirstLinesOneAfterAnotherGiveBackTheMessage': WHATEVER THE INPUT: true; the input reads as it did. -/
def fnFirstLinesOneAfterAnotherGiveBackTheMessageSpec : ChangeSpec := { name := "fnFirstLinesOneAfterAnotherGiveBackTheMessage", fn := fun _ => fun
  | [d1, d2, d3, d4, d5, d6, d7, d8, d9, d10, d11] => { results := [.lit (.bool true)], args := [d1, d2, d3, d4, d5, d6, d7, d8, d9, d10, d11] }
  | _ => none }
def fnFirstLinesOneAfterAnotherGiveBackTheMessageRow : OpenClaim := { program := "qxb6615634a", sum := "7937e4539e5221a609ab51d9f6891d8637f7f44459053cd005613686b37fa9ec", func := "example.com/tributary/tributary/zzlaws_history_b1.FnFirstLinesOneAfterAnotherGiveBackTheMessage", spec := "fnFirstLinesOneAfterAnotherGiveBackTheMessage", inPlace := ["internal/bytealg.IndexByteString", "internal/bytealg.IndexString"], named := ["internal/bytealg.MaxLen"], plainKeys := false, apart := false }
def FnFirstLinesOneAfterAnotherGiveBackTheMessageSaid : Prop := fnFirstLinesOneAfterAnotherGiveBackTheMessageRow.holds Try.pinned (OpenSpec.ofChange fnFirstLinesOneAfterAnotherGiveBackTheMessageSpec)

/-- ITS FALSE NEIGHBOUR: 'it returns false'. Refute it at one input. -/
def fnFirstLinesOneAfterAnotherGiveBackTheMessageWrong : ChangeSpec := { name := "fnFirstLinesOneAfterAnotherGiveBackTheMessage", fn := fun _ => fun
  | [d1, d2, d3, d4, d5, d6, d7, d8, d9, d10, d11] => { results := [.lit (.bool false)], args := [d1, d2, d3, d4, d5, d6, d7, d8, d9, d10, d11] }
  | _ => none }
def FnFirstLinesOneAfterAnotherGiveBackTheMessageWrongFalsely : Prop := fnFirstLinesOneAfterAnotherGiveBackTheMessageRow.holds Try.pinned (OpenSpec.ofChange fnFirstLinesOneAfterAnotherGiveBackTheMessageWrong)

/-- 'zzlaws_history_b1.FnAddMovesNoOtherCursor': WHATEVER THE INPUT: true; the input reads as it did. -/
def fnAddMovesNoOtherCursorSpec : ChangeSpec := { name := "fnAddMovesNoOtherCursor", fn := fun _ => fun
  | [d1, d2] => { results := [.lit (.bool true)], args := [d1, d2] }
  | _ => none }
def fnAddMovesNoOtherCursorRow : OpenClaim := { program := "qxb6615634a", sum := "7937e4539e5221a609ab51d9f6891d8637f7f44459053cd005613686b37fa9ec", func := "example.com/tributary/tributary/zzlaws_history_b1.FnAddMovesNoOtherCursor", spec := "fnAddMovesNoOtherCursor", unfollowed := true, recurses := true, plainKeys := false, apart := false }
def FnAddMovesNoOtherCursorSaid : Prop := fnAddMovesNoOtherCursorRow.holds Try.pinned (OpenSpec.ofChange fnAddMovesNoOtherCursorSpec)

/-- ITS FALSE NEIGHBOUR: 'it returns false'. Refute it at one input. -/
def fnAddMovesNoOtherCursorWrong : ChangeSpec := { name := "fnAddMovesNoOtherCursor", fn := fun _ => fun
  | [d1, d2] => { results := [.lit (.bool false)], args := [d1, d2] }
  | _ => none }
def FnAddMovesNoOtherCursorWrongFalsely : Prop := fnAddMovesNoOtherCursorRow.holds Try.pinned (OpenSpec.ofChange fnAddMovesNoOtherCursorWrong)

end Rows
end Go.Proofs.Qxb6615634a
