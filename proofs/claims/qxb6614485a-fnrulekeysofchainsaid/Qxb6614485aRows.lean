/-
  No cell of these rows narrows 'for every input' (looked for: loops, veiled, ifaces, maps, wideKeys, modest, calm, conditions, laid).
  DERIVED. THE GIVEN ROWS OF THIS SEAT. 1 by the template 'for every input the law returns true; each argument reads behind the call as it read before'; 0 by the template 'total and deterministic' (their statements: Qxb6614485aTotals.lean).
  GIVEN WITH THE SEED: the statements are not yours to turn. If you find one false, say at which input.
  Laid BY PROGRAM, IN A SANDBOX (cutbox-rows.mjs): the forced cells as the released guide's own fill.sh prints them over the translation 58d7a5ad6c69d3eb… (all of the seat's roots in one cut). By AI agents, Wed Nov 11 2026. No macro, syntax, notation, axiom, sorry.
-/
import Derived.Test.Qxb6614485aChecked
import GoSem.Claim
import GoSem.ClaimJoined
import GoSem.ClaimMapViews
import Derived.JoinedTies
import Derived.KernelRfl
namespace Go.Proofs.Qxb6614485a
/- THE CELL 'sum', in the pinned program and in every row, IS THE sha256 OF THE DUMP (.gsa) THAT Qxb6614485aProg.lean LOADS. Nothing in Lean hashes anything: it is a label: what it is worth is what the hold of that sum in a sandbox is worth. -/
noncomputable def Try.pinned : Pinned := { name := "qxb6614485a", sum := "58d7a5ad6c69d3eb1e08f21dfafd3a7e010e1acf8f5be77bda9e0ffbde1932c1", checked := Try.checked }
namespace Rows
def none {H : Type} : Left H := { results := [], args := [] }

/-- 'zzlaws_root_b1.FnRuleKeysOfChain': WHATEVER THE INPUT: true; the input reads as it did. -/
def fnRuleKeysOfChainSpec : ChangeSpec := { name := "fnRuleKeysOfChain", fn := fun _ => fun
  | [d1, d2, d3] => { results := [.lit (.bool true)], args := [d1, d2, d3] }
  | _ => none }
def fnRuleKeysOfChainRow : OpenClaim := { program := "qxb6614485a", sum := "58d7a5ad6c69d3eb1e08f21dfafd3a7e010e1acf8f5be77bda9e0ffbde1932c1", func := "example.com/gatewright/gatewright/zzlaws_root_b1.FnRuleKeysOfChain", spec := "fnRuleKeysOfChain", unfollowed := true, recurses := true, plainKeys := false, apart := false }
def FnRuleKeysOfChainSaid : Prop := fnRuleKeysOfChainRow.holds Try.pinned (OpenSpec.ofChange fnRuleKeysOfChainSpec)

/-- ITS FALSE NEIGHBOUR: 'it returns false'. Refute it at one input. -/
def fnRuleKeysOfChainWrong : ChangeSpec := { name := "fnRuleKeysOfChain", fn := fun _ => fun
  | [d1, d2, d3] => { results := [.lit (.bool false)], args := [d1, d2, d3] }
  | _ => none }
def FnRuleKeysOfChainWrongFalsely : Prop := fnRuleKeysOfChainRow.holds Try.pinned (OpenSpec.ofChange fnRuleKeysOfChainWrong)

end Rows
end Go.Proofs.Qxb6614485a
