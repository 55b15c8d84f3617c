/-
  No cell of these rows narrows 'for every input' (looked for: loops, veiled, ifaces, maps, wideKeys, modest, calm, conditions, laid).
  DERIVED. THE GIVEN ROWS OF THIS SEAT. 2 by the template 'for every input the law returns true; each argument reads behind the call as it read before'; 0 by the template 'total and deterministic' (their statements: Qxb6615129aTotals.lean).
  GIVEN WITH THE SEED: the statements are not yours to turn. If you find one false, say at which input.
  Laid BY PROGRAM, IN A SANDBOX (cutbox-rows.mjs): the forced cells as the released guide's own fill.sh prints them over the translation cc73eb2a0995af94… (all of the seat's roots in one cut). By AI agents, Wed Nov 11 2026. No macro, syntax, notation, axiom, sorry.
-/
import Derived.Test.Qxb6615129aChecked
import GoSem.Claim
import GoSem.ClaimJoined
import GoSem.ClaimMapViews
import Derived.JoinedTies
import Derived.KernelRfl
namespace Go.Proofs.Qxb6615129a
/- THE CELL 'sum', in the pinned program and in every row, IS THE sha256 OF THE DUMP (.gsa) THAT Qxb6615129aProg.lean LOADS. Nothing in Lean hashes anything: it is a label: what it is worth is what the hold of that sum in a sandbox is worth. -/
noncomputable def Try.pinned : Pinned := { name := "qxb6615129a", sum := "cc73eb2a0995af9446d1de0894efc74404baebf1e09e28c7c1937cc1dbacc43f", checked := Try.checked }
namespace Rows
def none {H : Type} : Left H := { results := [], args := [] }

/-- 'zzlaws_root_b1.FnDaysSinceCountsAShift': WHATEVER THE INPUT: true; the input reads as it did. -/
def fnDaysSinceCountsAShiftSpec : ChangeSpec := { name := "fnDaysSinceCountsAShift", fn := fun _ => fun
  | [d1, d2] => { results := [.lit (.bool true)], args := [d1, d2] }
  | _ => none }
def fnDaysSinceCountsAShiftRow : OpenClaim := { program := "qxb6615129a", sum := "cc73eb2a0995af9446d1de0894efc74404baebf1e09e28c7c1937cc1dbacc43f", func := "example.com/zhaomu/zhaomu/zzlaws_root_b1.FnDaysSinceCountsAShift", spec := "fnDaysSinceCountsAShift", apart := false }
def FnDaysSinceCountsAShiftSaid : Prop := fnDaysSinceCountsAShiftRow.holds Try.pinned (OpenSpec.ofChange fnDaysSinceCountsAShiftSpec)

/-- ITS FALSE NEIGHBOUR: 'it returns false'. Refute it at one input. -/
def fnDaysSinceCountsAShiftWrong : ChangeSpec := { name := "fnDaysSinceCountsAShift", fn := fun _ => fun
  | [d1, d2] => { results := [.lit (.bool false)], args := [d1, d2] }
  | _ => none }
def FnDaysSinceCountsAShiftWrongFalsely : Prop := fnDaysSinceCountsAShiftRow.holds Try.pinned (OpenSpec.ofChange fnDaysSinceCountsAShiftWrong)

/-- 'zzlaws_root_b1.FnDaysSinceChainsAndReverses': WHATEVER THE INPUT: true; the input reads as it did. -/
def fnDaysSinceChainsAndReversesSpec : ChangeSpec := { name := "fnDaysSinceChainsAndReverses", fn := fun _ => fun
  | [d1, d2, d3] => { results := [.lit (.bool true)], args := [d1, d2, d3] }
  | _ => none }
def fnDaysSinceChainsAndReversesRow : OpenClaim := { program := "qxb6615129a", sum := "cc73eb2a0995af9446d1de0894efc74404baebf1e09e28c7c1937cc1dbacc43f", func := "example.com/zhaomu/zhaomu/zzlaws_root_b1.FnDaysSinceChainsAndReverses", spec := "fnDaysSinceChainsAndReverses", apart := false }
def FnDaysSinceChainsAndReversesSaid : Prop := fnDaysSinceChainsAndReversesRow.holds Try.pinned (OpenSpec.ofChange fnDaysSinceChainsAndReversesSpec)

/-- ITS FALSE NEIGHBOUR: 'it returns false'. Refute it at one input. -/
def fnDaysSinceChainsAndReversesWrong : ChangeSpec := { name := "fnDaysSinceChainsAndReverses", fn := fun _ => fun
  | [d1, d2, d3] => { results := [.lit (.bool false)], args := [d1, d2, d3] }
  | _ => none }
def FnDaysSinceChainsAndReversesWrongFalsely : Prop := fnDaysSinceChainsAndReversesRow.holds Try.pinned (OpenSpec.ofChange fnDaysSinceChainsAndReversesWrong)

end Rows
end Go.Proofs.Qxb6615129a
