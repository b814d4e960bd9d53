/-
  No cell of these rows narrows 'for every input' (looked for: loops, veiled, ifaces, maps, wideKeys, modest, calm, conditions, laid).
  DERIVED. THE GIVEN ROWS OF THIS SEAT. 2 by the template 'for every input the law returns true; each argument reads behind the call as it read before'; 0 by the template 'total and deterministic' (their statements: Qxb6628496aTotals.lean).
  GIVEN WITH THE SEED: the statements are not yours to turn. If you find one false, say at which input.
  Laid BY PROGRAM, IN A SANDBOX (cutbox-rows.mjs): the forced cells as the released guide's own fill.sh prints them over the translation ac317105362be85f… (all of the seat's roots in one cut). By AI agents, Wed Nov 11 2026. No macro, syntax, notation, axiom, sorry.
-/
import Derived.Test.Qxb6628496aChecked
import GoSem.Claim
import GoSem.ClaimJoined
import GoSem.ClaimMapViews
import Derived.JoinedTies
import Derived.KernelRfl
namespace Go.Proofs.Qxb6628496a
/- THE CELL 'sum', in the pinned program and in every row, IS THE sha256 OF THE DUMP (.gsa) THAT Qxb6628496aProg.lean LOADS. Nothing in Lean hashes anything: it is a label: what it is worth is what the hold of that sum in a sandbox is worth. -/
noncomputable def Try.pinned : Pinned := { name := "qxb6628496a", sum := "ac317105362be85f3ce0b97a967d718bffc015185533484cc0ea2fa73bd9f778", checked := Try.checked }
namespace Rows
def none {H : Type} : Left H := { results := [], args := [] }

/-- 'zzlaws_internal_segment_b1.FnPlaceWhole': WHATEVER THE INPUT: true; the input reads as it did. -/
def fnPlaceWholeSpec : ChangeSpec := { name := "fnPlaceWhole", fn := fun _ => fun
  | [d1, d2, d3] => { results := [.lit (.bool true)], args := [d1, d2, d3] }
  | _ => none }
def fnPlaceWholeRow : OpenClaim := { program := "qxb6628496a", sum := "ac317105362be85f3ce0b97a967d718bffc015185533484cc0ea2fa73bd9f778", func := "example.com/stowline/stowline/zzlaws_internal_segment_b1.FnPlaceWhole", spec := "fnPlaceWhole", apart := false }
def FnPlaceWholeSaid : Prop := fnPlaceWholeRow.holds Try.pinned (OpenSpec.ofChange fnPlaceWholeSpec)

/-- ITS FALSE NEIGHBOUR: 'it returns false'. Refute it at one input. -/
def fnPlaceWholeWrong : ChangeSpec := { name := "fnPlaceWhole", fn := fun _ => fun
  | [d1, d2, d3] => { results := [.lit (.bool false)], args := [d1, d2, d3] }
  | _ => none }
def FnPlaceWholeWrongFalsely : Prop := fnPlaceWholeRow.holds Try.pinned (OpenSpec.ofChange fnPlaceWholeWrong)

/-- 'zzlaws_internal_segment_b1.FnPlaceAllGroupsByWindow': WHATEVER THE INPUT: true; the input reads as it did. -/
def fnPlaceAllGroupsByWindowSpec : ChangeSpec := { name := "fnPlaceAllGroupsByWindow", fn := fun _ => fun
  | [d] => { results := [.lit (.bool true)], args := [d] }
  | _ => none }
def fnPlaceAllGroupsByWindowRow : OpenClaim := { program := "qxb6628496a", sum := "ac317105362be85f3ce0b97a967d718bffc015185533484cc0ea2fa73bd9f778", func := "example.com/stowline/stowline/zzlaws_internal_segment_b1.FnPlaceAllGroupsByWindow", spec := "fnPlaceAllGroupsByWindow", apart := false }
def FnPlaceAllGroupsByWindowSaid : Prop := fnPlaceAllGroupsByWindowRow.holds Try.pinned (OpenSpec.ofChange fnPlaceAllGroupsByWindowSpec)

/-- ITS FALSE NEIGHBOUR: 'it returns false'. Refute it at one input. -/
def fnPlaceAllGroupsByWindowWrong : ChangeSpec := { name := "fnPlaceAllGroupsByWindow", fn := fun _ => fun
  | [d] => { results := [.lit (.bool false)], args := [d] }
  | _ => none }
def FnPlaceAllGroupsByWindowWrongFalsely : Prop := fnPlaceAllGroupsByWindowRow.holds Try.pinned (OpenSpec.ofChange fnPlaceAllGroupsByWindowWrong)

end Rows
end Go.Proofs.Qxb6628496a
