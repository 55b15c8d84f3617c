/-
  DERIVED. GIVEN WITH THE SEED: THE CARDS: each row of Qxb6615018aDoorRows.lean that lists a variable, with what it lists TIED to the program's text (the seventh form; the later family's looks); each row that meets fmt, with fmt's text TOLD by the authors' own Lean function (tested against real Go, not proved from fmt's source: count such statements apart). THE CARD IS WHAT COUNTS. Prove the row's statement (the work); the ties are given (Qxb6615018aDoorTie.lean); close each card by the builder's one call (the guide's Derived/Test/ToyasCard.lean, 'card_holds'). Laid BY PROGRAM, IN A SANDBOX (cutbox-door.mjs). By AI agents, Wed Nov 11 2026. No macro, syntax, notation, axiom, sorry.
-/
import Derived.Test.Qxb6615018aDoorRows
import GoSem.ClaimSeven
namespace Go.Proofs.Qxb6615018aDoor
namespace Rows

/-- THE TIED CARD OF 'zzlaws_cellsync_b1.FnDecoderUintReadsInTwoStepsAsInOne'. -/
def fnDecoderUintReadsInTwoStepsAsInOneCard : Claim7 := { stood := { row := fnDecoderUintReadsInTwoStepsAsInOneRow, standIns := [], harness := (true, "b280ecc2e17a264b948dfb8d65d1c296d9803345cf813818976a9b20005564c8"), looks := true }, kinds := [], alts := [], laidByText := true, laidKinds := [.sentinel], laidTests := true, laidLooks := .later }
def FnDecoderUintReadsInTwoStepsAsInOneCardSaid : Prop := Claim7.holds Tryd.pinned (.plain (OpenSpec.ofChange fnDecoderUintReadsInTwoStepsAsInOneSpec)) fnDecoderUintReadsInTwoStepsAsInOneCard

/-- THE TIED CARD OF 'zzlaws_cellsync_b1.FnDecoderUintScriptGivesBackTheBytes'. -/
def fnDecoderUintScriptGivesBackTheBytesCard : Claim7 := { stood := { row := fnDecoderUintScriptGivesBackTheBytesRow, standIns := [], harness := (true, "b280ecc2e17a264b948dfb8d65d1c296d9803345cf813818976a9b20005564c8"), looks := true }, kinds := [], alts := [], laidByText := true, laidKinds := [.sentinel], laidTests := true, laidLooks := .later }
def FnDecoderUintScriptGivesBackTheBytesCardSaid : Prop := Claim7.holds Tryd.pinned (.plain (OpenSpec.ofChange fnDecoderUintScriptGivesBackTheBytesSpec)) fnDecoderUintScriptGivesBackTheBytesCard

/-- THE TIED CARD OF 'zzlaws_cellsync_b1.FnJoinedPartReadsThePiecesInTurn'. -/
def fnJoinedPartReadsThePiecesInTurnCard : Claim7 := { stood := { row := fnJoinedPartReadsThePiecesInTurnRow, standIns := [], harness := (true, "b280ecc2e17a264b948dfb8d65d1c296d9803345cf813818976a9b20005564c8"), looks := true }, kinds := [], alts := [], laidByText := true, laidKinds := [.sentinel], laidTests := true, laidLooks := .later }
def FnJoinedPartReadsThePiecesInTurnCardSaid : Prop := Claim7.holds Tryd.pinned (.plain (OpenSpec.ofChange fnJoinedPartReadsThePiecesInTurnSpec)) fnJoinedPartReadsThePiecesInTurnCard
end Rows
end Go.Proofs.Qxb6615018aDoor
