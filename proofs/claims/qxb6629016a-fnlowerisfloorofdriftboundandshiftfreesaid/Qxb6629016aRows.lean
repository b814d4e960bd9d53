/-
  No cell of these rows narrows 'for every input' (looked for: loops, veiled, ifaces, maps, wideKeys, modest, calm, conditions, laid).
  DERIVED. THE GIVEN ROWS OF THIS SEAT. 2 by the template 'for every input the law returns true; each argument reads behind the call as it read before'; 0 by the template 'total and deterministic' (their statements: Qxb6629016aTotals.lean).
  GIVEN WITH THE SEED: the statements are not yours to turn. If you find one false, say at which input.
  Laid BY PROGRAM, IN A SANDBOX (cutbox-rows.mjs): the forced cells as the released guide's own fill.sh prints them over the translation 21fdc7cb26f51b82… (all of the seat's roots in one cut). By AI agents, Wed Nov 11 2026. No macro, syntax, notation, axiom, sorry.
-/
import Derived.Test.Qxb6629016aChecked
import GoSem.Claim
import GoSem.ClaimJoined
import GoSem.ClaimMapViews
import Derived.JoinedTies
import Derived.KernelRfl
namespace Go.Proofs.Qxb6629016a
/- THE CELL 'sum', in the pinned program and in every row, IS THE sha256 OF THE DUMP (.gsa) THAT Qxb6629016aProg.lean LOADS. Nothing in Lean hashes anything: it is a label: what it is worth is what the hold of that sum in a sandbox is worth. -/
noncomputable def Try.pinned : Pinned := { name := "qxb6629016a", sum := "21fdc7cb26f51b820fc6ae148aab9096208518342d36ff421af03bd783ac6265", checked := Try.checked }
namespace Rows
def none {H : Type} : Left H := { results := [], args := [] }

/-- 'zzlaws_internal_clock_b1.FnLowerIsFloorOfDriftBoundAndShiftFree': WHATEVER THE INPUT: true; the input reads as it did. -/
def fnLowerIsFloorOfDriftBoundAndShiftFreeSpec : ChangeSpec := { name := "fnLowerIsFloorOfDriftBoundAndShiftFree", fn := fun _ => fun
  | [d1, d2, d3, d4, d5, d6, d7] => { results := [.lit (.bool true)], args := [d1, d2, d3, d4, d5, d6, d7] }
  | _ => none }
def fnLowerIsFloorOfDriftBoundAndShiftFreeRow : OpenClaim := { program := "qxb6629016a", sum := "21fdc7cb26f51b820fc6ae148aab9096208518342d36ff421af03bd783ac6265", func := "example.com/orrery/orrery/zzlaws_internal_clock_b1.FnLowerIsFloorOfDriftBoundAndShiftFree", spec := "fnLowerIsFloorOfDriftBoundAndShiftFree", apart := false }
def FnLowerIsFloorOfDriftBoundAndShiftFreeSaid : Prop := fnLowerIsFloorOfDriftBoundAndShiftFreeRow.holds Try.pinned (OpenSpec.ofChange fnLowerIsFloorOfDriftBoundAndShiftFreeSpec)

/-- ITS FALSE NEIGHBOUR: 'it returns false'. Refute it at one input. -/
def fnLowerIsFloorOfDriftBoundAndShiftFreeWrong : ChangeSpec := { name := "fnLowerIsFloorOfDriftBoundAndShiftFree", fn := fun _ => fun
  | [d1, d2, d3, d4, d5, d6, d7] => { results := [.lit (.bool false)], args := [d1, d2, d3, d4, d5, d6, d7] }
  | _ => none }
def FnLowerIsFloorOfDriftBoundAndShiftFreeWrongFalsely : Prop := fnLowerIsFloorOfDriftBoundAndShiftFreeRow.holds Try.pinned (OpenSpec.ofChange fnLowerIsFloorOfDriftBoundAndShiftFreeWrong)

/-- 'zzlaws_internal_clock_b1.FnLowerRebasedAtLaterLocalTimeAgrees': WHATEVER THE INPUT: true; the input reads as it did. -/
def fnLowerRebasedAtLaterLocalTimeAgreesSpec : ChangeSpec := { name := "fnLowerRebasedAtLaterLocalTimeAgrees", fn := fun _ => fun
  | [d1, d2, d3, d4, d5, d6, d7] => { results := [.lit (.bool true)], args := [d1, d2, d3, d4, d5, d6, d7] }
  | _ => none }
def fnLowerRebasedAtLaterLocalTimeAgreesRow : OpenClaim := { program := "qxb6629016a", sum := "21fdc7cb26f51b820fc6ae148aab9096208518342d36ff421af03bd783ac6265", func := "example.com/orrery/orrery/zzlaws_internal_clock_b1.FnLowerRebasedAtLaterLocalTimeAgrees", spec := "fnLowerRebasedAtLaterLocalTimeAgrees", apart := false }
def FnLowerRebasedAtLaterLocalTimeAgreesSaid : Prop := fnLowerRebasedAtLaterLocalTimeAgreesRow.holds Try.pinned (OpenSpec.ofChange fnLowerRebasedAtLaterLocalTimeAgreesSpec)

/-- ITS FALSE NEIGHBOUR: 'it returns false'. Refute it at one input. -/
def fnLowerRebasedAtLaterLocalTimeAgreesWrong : ChangeSpec := { name := "fnLowerRebasedAtLaterLocalTimeAgrees", fn := fun _ => fun
  | [d1, d2, d3, d4, d5, d6, d7] => { results := [.lit (.bool false)], args := [d1, d2, d3, d4, d5, d6, d7] }
  | _ => none }
def FnLowerRebasedAtLaterLocalTimeAgreesWrongFalsely : Prop := fnLowerRebasedAtLaterLocalTimeAgreesRow.holds Try.pinned (OpenSpec.ofChange fnLowerRebasedAtLaterLocalTimeAgreesWrong)

end Rows
end Go.Proofs.Qxb6629016a
