/-
  No cell of these rows narrows 'for every input' (looked for: loops, veiled, ifaces, maps, wideKeys, modest, calm, conditions, laid).
  DERIVED. THE GIVEN ROWS OF THIS SEAT. 2 by the template 'for every input the law returns true; each argument reads behind the call as it read before'; 0 by the template 'total and deterministic' (their statements: Qxb6615961aTotals.lean).
  GIVEN WITH THE SEED: the statements are not yours to turn. If you find one false, say at which input.
  Laid BY PROGRAM, IN A SANDBOX (cutbox-rows.mjs): the forced cells as the released guide's own fill.sh prints them over the translation 53ebb6d7f41834a1… (all of the seat's roots in one cut). By AI agents, Wed Nov 11 2026. No macro, syntax, notation, axiom, sorry.
-/
import Derived.Test.Qxb6615961aChecked
import GoSem.Claim
import GoSem.ClaimJoined
import GoSem.ClaimMapViews
import Derived.JoinedTies
import Derived.KernelRfl
namespace Go.Proofs.Qxb6615961a
/- THE CELL 'sum', in the pinned program and in every row, IS THE sha256 OF THE DUMP (.gsa) THAT Qxb6615961aProg.lean LOADS. Nothing in Lean hashes anything: it is a label: what it is worth is what the hold of that sum in a sandbox is worth. -/
noncomputable def Try.pinned : Pinned := { name := "qxb6615961a", sum := "53ebb6d7f41834a156e5f4a86f705154bed9a833609d5eaf455c93213ff0c6cc", checked := Try.checked }
namespace Rows
def none {H : Type} : Left H := { results := [], args := [] }

/-- 'zzlaws_internal_yamlscan_b1.FnReadsRefusesExactlyTheBreaks': WHATEVER THE INPUT: true; the input reads as it did. -/
def fnReadsRefusesExactlyTheBreaksSpec : ChangeSpec := { name := "fnReadsRefusesExactlyTheBreaks", fn := fun _ => fun
  | [d] => { results := [.lit (.bool true)], args := [d] }
  | _ => none }
def fnReadsRefusesExactlyTheBreaksRow : OpenClaim := { program := "qxb6615961a", sum := "53ebb6d7f41834a156e5f4a86f705154bed9a833609d5eaf455c93213ff0c6cc", func := "example.com/allotrope/allotrope/zzlaws_internal_yamlscan_b1.FnReadsRefusesExactlyTheBreaks", spec := "fnReadsRefusesExactlyTheBreaks", apart := false }
def FnReadsRefusesExactlyTheBreaksSaid : Prop := fnReadsRefusesExactlyTheBreaksRow.holds Try.pinned (OpenSpec.ofChange fnReadsRefusesExactlyTheBreaksSpec)

/-- ITS FALSE NEIGHBOUR: 'it returns false'. Refute it at one input. -/
def fnReadsRefusesExactlyTheBreaksWrong : ChangeSpec := { name := "fnReadsRefusesExactlyTheBreaks", fn := fun _ => fun
  | [d] => { results := [.lit (.bool false)], args := [d] }
  | _ => none }
def FnReadsRefusesExactlyTheBreaksWrongFalsely : Prop := fnReadsRefusesExactlyTheBreaksRow.holds Try.pinned (OpenSpec.ofChange fnReadsRefusesExactlyTheBreaksWrong)

/-- 'zzlaws_internal_yamlscan_b1.FnReadsCountsTheLinesOfAText': WHATEVER THE INPUT: true; the input reads as it did. -/
def fnReadsCountsTheLinesOfATextSpec : ChangeSpec := { name := "fnReadsCountsTheLinesOfAText", fn := fun _ => fun
  | [d] => { results := [.lit (.bool true)], args := [d] }
  | _ => none }
def fnReadsCountsTheLinesOfATextRow : OpenClaim := { program := "qxb6615961a", sum := "53ebb6d7f41834a156e5f4a86f705154bed9a833609d5eaf455c93213ff0c6cc", func := "example.com/allotrope/allotrope/zzlaws_internal_yamlscan_b1.FnReadsCountsTheLinesOfAText", spec := "fnReadsCountsTheLinesOfAText", apart := false }
def FnReadsCountsTheLinesOfATextSaid : Prop := fnReadsCountsTheLinesOfATextRow.holds Try.pinned (OpenSpec.ofChange fnReadsCountsTheLinesOfATextSpec)

/-- ITS FALSE NEIGHBOUR: 'it returns false'. Refute it at one input. -/
def fnReadsCountsTheLinesOfATextWrong : ChangeSpec := { name := "fnReadsCountsTheLinesOfAText", fn := fun _ => fun
  | [d] => { results := [.lit (.bool false)], args := [d] }
  | _ => none }
def FnReadsCountsTheLinesOfATextWrongFalsely : Prop := fnReadsCountsTheLinesOfATextRow.holds Try.pinned (OpenSpec.ofChange fnReadsCountsTheLinesOfATextWrong)

end Rows
end Go.Proofs.Qxb6615961a
