/-
  No cell of these rows narrows 'for every input' (looked for: loops, veiled, ifaces, maps, wideKeys, modest, calm, conditions, laid).
  DERIVED. THE GIVEN ROWS OF THIS SEAT. 2 by the template 'for every input the law returns true; each argument reads behind the call as it read before'; 0 by the template 'total and deterministic' (their statements: Qxb6629087aTotals.lean).
  GIVEN WITH THE SEED: the statements are not yours to turn. If you find one false, say at which input.
  Laid BY PROGRAM, IN A SANDBOX (cutbox-rows.mjs): the forced cells as the released guide's own fill.sh prints them over the translation 6ad907eb1807ec50… (all of the seat's roots in one cut). By AI agents, Wed Nov 11 2026. No macro, syntax, notation, axiom, sorry.
-/
import Derived.Test.Qxb6629087aChecked
import GoSem.Claim
import GoSem.ClaimJoined
import GoSem.ClaimMapViews
import Derived.JoinedTies
import Derived.KernelRfl
namespace Go.Proofs.Qxb6629087a
/- THE CELL 'sum', in the pinned program and in every row, IS THE sha256 OF THE DUMP (.gsa) THAT Qxb6629087aProg.lean LOADS. Nothing in Lean hashes anything: it is a label: what it is worth is what the hold of that sum in a sandbox is worth. -/
noncomputable def Try.pinned : Pinned := { name := "qxb6629087a", sum := "6ad907eb1807ec5044c60d746d86fbc2a66a2602b50ce2bfd6c93c5e179ef9ff", checked := Try.checked }
namespace Rows
def none {H : Type} : Left H := { results := [], args := [] }

/-- 'zzlaws_pkg_template_b1.FnOneOfCutAndInsert': WHATEVER THE INPUT: true; the input reads as it did. -/
def fnOneOfCutAndInsertSpec : ChangeSpec := { name := "fnOneOfCutAndInsert", fn := fun _ => fun
  | [d1, d2, d3] => { results := [.lit (.bool true)], args := [d1, d2, d3] }
  | _ => none }
def fnOneOfCutAndInsertRow : OpenClaim := { program := "qxb6629087a", sum := "6ad907eb1807ec5044c60d746d86fbc2a66a2602b50ce2bfd6c93c5e179ef9ff", func := "example.com/terse-templates/terse-templates/zzlaws_pkg_template_b1.FnOneOfCutAndInsert", spec := "fnOneOfCutAndInsert", apart := false }
def FnOneOfCutAndInsertSaid : Prop := fnOneOfCutAndInsertRow.holds Try.pinned (OpenSpec.ofChange fnOneOfCutAndInsertSpec)

/-- ITS FALSE NEIGHBOUR: 'it returns false'. Refute it at one input. -/
def fnOneOfCutAndInsertWrong : ChangeSpec := { name := "fnOneOfCutAndInsert", fn := fun _ => fun
  | [d1, d2, d3] => { results := [.lit (.bool false)], args := [d1, d2, d3] }
  | _ => none }
def FnOneOfCutAndInsertWrongFalsely : Prop := fnOneOfCutAndInsertRow.holds Try.pinned (OpenSpec.ofChange fnOneOfCutAndInsertWrong)

/-- 'zzlaws_pkg_template_b1.FnOneOfExactlyWhenRemovalShortens': WHATEVER THE INPUT: true; the input reads as it did. -/
def fnOneOfExactlyWhenRemovalShortensSpec : ChangeSpec := { name := "fnOneOfExactlyWhenRemovalShortens", fn := fun _ => fun
  | [d1, d2] => { results := [.lit (.bool true)], args := [d1, d2] }
  | _ => none }
def fnOneOfExactlyWhenRemovalShortensRow : OpenClaim := { program := "qxb6629087a", sum := "6ad907eb1807ec5044c60d746d86fbc2a66a2602b50ce2bfd6c93c5e179ef9ff", func := "example.com/terse-templates/terse-templates/zzlaws_pkg_template_b1.FnOneOfExactlyWhenRemovalShortens", spec := "fnOneOfExactlyWhenRemovalShortens", apart := false }
def FnOneOfExactlyWhenRemovalShortensSaid : Prop := fnOneOfExactlyWhenRemovalShortensRow.holds Try.pinned (OpenSpec.ofChange fnOneOfExactlyWhenRemovalShortensSpec)

/-- ITS FALSE NEIGHBOUR: 'it returns false'. Refute it at one input. -/
def fnOneOfExactlyWhenRemovalShortensWrong : ChangeSpec := { name := "fnOneOfExactlyWhenRemovalShortens", fn := fun _ => fun
  | [d1, d2] => { results := [.lit (.bool false)], args := [d1, d2] }
  | _ => none }
def FnOneOfExactlyWhenRemovalShortensWrongFalsely : Prop := fnOneOfExactlyWhenRemovalShortensRow.holds Try.pinned (OpenSpec.ofChange fnOneOfExactlyWhenRemovalShortensWrong)

end Rows
end Go.Proofs.Qxb6629087a
