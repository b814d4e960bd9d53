/-
  No cell of these rows narrows 'for every input' (looked for: loops, veiled, ifaces, maps, wideKeys, modest, calm, conditions, laid).
  DERIVED. THE GIVEN ROWS OF THIS SEAT. 2 by the template 'for every input the law returns true; each argument reads behind the call as it read before'; 0 by the template 'total and deterministic' (their statements: Qxb6629057aTotals.lean).
  GIVEN WITH THE SEED: the statements are not yours to turn. If you find one false, say at which input.
  Laid BY PROGRAM, IN A SANDBOX (cutbox-rows.mjs): the forced cells as the released guide's own fill.sh prints them over the translation b4b0473ac7b3a7be… (all of the seat's roots in one cut). By AI agents, Wed Nov 11 2026. No macro, syntax, notation, axiom, sorry.
-/
import Derived.Test.Qxb6629057aChecked
import GoSem.Claim
import GoSem.ClaimJoined
import GoSem.ClaimMapViews
import Derived.JoinedTies
import Derived.KernelRfl
namespace Go.Proofs.Qxb6629057a
/- THE CELL 'sum', in the pinned program and in every row, IS THE sha256 OF THE DUMP (.gsa) THAT Qxb6629057aProg.lean LOADS. Nothing in Lean hashes anything: it is a label: what it is worth is what the hold of that sum in a sandbox is worth. -/
noncomputable def Try.pinned : Pinned := { name := "qxb6629057a", sum := "b4b0473ac7b3a7be4777b07da821850c3ef754340180efe8b910db6fc0367d1b", checked := Try.checked }
namespace Rows
def none {H : Type} : Left H := { results := [], args := [] }

/-- 'zzlaws_root_b1.FnIsPlainStringInsertCount': WHATEVER THE INPUT: true; the input reads as it did. -/
def fnIsPlainStringInsertCountSpec : ChangeSpec := { name := "fnIsPlainStringInsertCount", fn := fun _ => fun
  | [d1, d2] => { results := [.lit (.bool true)], args := [d1, d2] }
  | _ => none }
def fnIsPlainStringInsertCountRow : OpenClaim := { program := "qxb6629057a", sum := "b4b0473ac7b3a7be4777b07da821850c3ef754340180efe8b910db6fc0367d1b", func := "example.com/marginweave/marginweave/zzlaws_root_b1.FnIsPlainStringInsertCount", spec := "fnIsPlainStringInsertCount", apart := false }
def FnIsPlainStringInsertCountSaid : Prop := fnIsPlainStringInsertCountRow.holds Try.pinned (OpenSpec.ofChange fnIsPlainStringInsertCountSpec)

/-- ITS FALSE NEIGHBOUR: 'it returns false'. Refute it at one input. -/
def fnIsPlainStringInsertCountWrong : ChangeSpec := { name := "fnIsPlainStringInsertCount", fn := fun _ => fun
  | [d1, d2] => { results := [.lit (.bool false)], args := [d1, d2] }
  | _ => none }
def FnIsPlainStringInsertCountWrongFalsely : Prop := fnIsPlainStringInsertCountRow.holds Try.pinned (OpenSpec.ofChange fnIsPlainStringInsertCountWrong)

/-- 'zzlaws_root_b1.FnIsPlainStringByteByByte': WHATEVER THE INPUT: true; the input reads as it did. -/
def fnIsPlainStringByteByByteSpec : ChangeSpec := { name := "fnIsPlainStringByteByByte", fn := fun _ => fun
  | [d] => { results := [.lit (.bool true)], args := [d] }
  | _ => none }
def fnIsPlainStringByteByByteRow : OpenClaim := { program := "qxb6629057a", sum := "b4b0473ac7b3a7be4777b07da821850c3ef754340180efe8b910db6fc0367d1b", func := "example.com/marginweave/marginweave/zzlaws_root_b1.FnIsPlainStringByteByByte", spec := "fnIsPlainStringByteByByte", apart := false }
def FnIsPlainStringByteByByteSaid : Prop := fnIsPlainStringByteByByteRow.holds Try.pinned (OpenSpec.ofChange fnIsPlainStringByteByByteSpec)

/-- ITS FALSE NEIGHBOUR: 'it returns false'. Refute it at one input. -/
def fnIsPlainStringByteByByteWrong : ChangeSpec := { name := "fnIsPlainStringByteByByte", fn := fun _ => fun
  | [d] => { results := [.lit (.bool false)], args := [d] }
  | _ => none }
def FnIsPlainStringByteByByteWrongFalsely : Prop := fnIsPlainStringByteByByteRow.holds Try.pinned (OpenSpec.ofChange fnIsPlainStringByteByByteWrong)

end Rows
end Go.Proofs.Qxb6629057a
