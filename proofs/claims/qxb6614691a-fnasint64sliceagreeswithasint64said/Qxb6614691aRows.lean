/-
  No cell of these rows narrows 'for every input' (looked for: loops, veiled, ifaces, maps, wideKeys, modest, calm, conditions, laid).
  DERIVED. THE GIVEN ROWS OF THIS SEAT. 2 by the template 'for every input the law returns true; each argument reads behind the call as it read before'; 0 by the template 'total and deterministic' (their statements: Qxb6614691aTotals.lean).
  GIVEN WITH THE SEED: the statements are not yours to turn. If you find one false, say at which input.
  Laid BY PROGRAM, IN A SANDBOX (cutbox-rows.mjs): the forced cells as the released guide's own fill.sh prints them over the translation ee0ae47e009d4b7a… (all of the seat's roots in one cut). By AI agents, Wed Nov 11 2026. No macro, syntax, notation, axiom, sorry.
-/
import Derived.Test.Qxb6614691aChecked
import GoSem.Claim
import GoSem.ClaimJoined
import GoSem.ClaimMapViews
import Derived.JoinedTies
import Derived.KernelRfl
namespace Go.Proofs.Qxb6614691a
/- THE CELL 'sum', in the pinned program and in every row, IS THE sha256 OF THE DUMP (.gsa) THAT Qxb6614691aProg.lean LOADS. Nothing in Lean hashes anything: it is a label: what it is worth is what the hold of that sum in a sandbox is worth. -/
noncomputable def Try.pinned : Pinned := { name := "qxb6614691a", sum := "ee0ae47e009d4b7a8059f5df2e0f92cb3b0396025f3e2d9e08e7da582dac16b8", checked := Try.checked }
namespace Rows
def none {H : Type} : Left H := { results := [], args := [] }

/-- 'zzlaws_root_b1.FnAsInt64SliceAgreesWithAsInt64': WHATEVER THE INPUT: true; the input reads as it did. -/
def fnAsInt64SliceAgreesWithAsInt64Spec : ChangeSpec := { name := "fnAsInt64SliceAgreesWithAsInt64", fn := fun _ => fun
  | [d] => { results := [.lit (.bool true)], args := [d] }
  | _ => none }
def fnAsInt64SliceAgreesWithAsInt64Row : OpenClaim := { program := "qxb6614691a", sum := "ee0ae47e009d4b7a8059f5df2e0f92cb3b0396025f3e2d9e08e7da582dac16b8", func := "example.com/nimble-trace/nimble-trace/zzlaws_root_b1.FnAsInt64SliceAgreesWithAsInt64", spec := "fnAsInt64SliceAgreesWithAsInt64", apart := false }
def FnAsInt64SliceAgreesWithAsInt64Said : Prop := fnAsInt64SliceAgreesWithAsInt64Row.holds Try.pinned (OpenSpec.ofChange fnAsInt64SliceAgreesWithAsInt64Spec)

/-- ITS FALSE NEIGHBOUR: 'it returns false'. Refute it at one input. -/
def fnAsInt64SliceAgreesWithAsInt64Wrong : ChangeSpec := { name := "fnAsInt64SliceAgreesWithAsInt64", fn := fun _ => fun
  | [d] => { results := [.lit (.bool false)], args := [d] }
  | _ => none }
def FnAsInt64SliceAgreesWithAsInt64WrongFalsely : Prop := fnAsInt64SliceAgreesWithAsInt64Row.holds Try.pinned (OpenSpec.ofChange fnAsInt64SliceAgreesWithAsInt64Wrong)

/-- 'zzlaws_root_b1.FnAsInt64SliceHandsOutItsOwnCopy': WHATEVER THE INPUT: true; the input reads as it did. -/
def fnAsInt64SliceHandsOutItsOwnCopySpec : ChangeSpec := { name := "fnAsInt64SliceHandsOutItsOwnCopy", fn := fun _ => fun
  | [d] => { results := [.lit (.bool true)], args := [d] }
  | _ => none }
def fnAsInt64SliceHandsOutItsOwnCopyRow : OpenClaim := { program := "qxb6614691a", sum := "ee0ae47e009d4b7a8059f5df2e0f92cb3b0396025f3e2d9e08e7da582dac16b8", func := "example.com/nimble-trace/nimble-trace/zzlaws_root_b1.FnAsInt64SliceHandsOutItsOwnCopy", spec := "fnAsInt64SliceHandsOutItsOwnCopy", apart := false }
def FnAsInt64SliceHandsOutItsOwnCopySaid : Prop := fnAsInt64SliceHandsOutItsOwnCopyRow.holds Try.pinned (OpenSpec.ofChange fnAsInt64SliceHandsOutItsOwnCopySpec)

/-- ITS FALSE NEIGHBOUR: 'it returns false'. Refute it at one input. -/
def fnAsInt64SliceHandsOutItsOwnCopyWrong : ChangeSpec := { name := "fnAsInt64SliceHandsOutItsOwnCopy", fn := fun _ => fun
  | [d] => { results := [.lit (.bool false)], args := [d] }
  | _ => none }
def FnAsInt64SliceHandsOutItsOwnCopyWrongFalsely : Prop := fnAsInt64SliceHandsOutItsOwnCopyRow.holds Try.pinned (OpenSpec.ofChange fnAsInt64SliceHandsOutItsOwnCopyWrong)

end Rows
end Go.Proofs.Qxb6614691a
