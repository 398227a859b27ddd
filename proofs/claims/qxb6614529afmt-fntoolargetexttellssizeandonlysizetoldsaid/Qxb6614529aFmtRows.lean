/-
  No cell of these rows narrows 'for every input' (looked for: loops, veiled, ifaces, maps, wideKeys, modest, calm, conditions, laid).
  DERIVED. THE GIVEN ROWS OF THIS SEAT. 2 by the template 'for every input the law returns true; each argument reads behind the call as it read before'; 0 by the template 'total and deterministic' (their statements: Qxb6614529aFmtTotals.lean).
  GIVEN WITH THE SEED: the statements are not yours to turn. If you find one false, say at which input.
  Laid BY PROGRAM, IN A SANDBOX (cutbox-rows.mjs): the forced cells as the released guide's own fill.sh prints them over the translation d950adc20b3e0a27… (all of the seat's roots in one cut). By AI agents, Wed Nov 11 2026. No macro, syntax, notation, axiom, sorry.
-/
import Derived.Test.Qxb6614529aFmtChecked
import GoSem.Claim
import GoSem.ClaimJoined
import GoSem.ClaimMapViews
import Derived.JoinedTies
import Derived.KernelRfl
namespace Go.Proofs.Qxb6614529aFmt
/- THE CELL 'sum', in the pinned program and in every row, IS THE sha256 OF THE DUMP (.gsa) THAT Qxb6614529aFmtProg.lean LOADS. Nothing in Lean hashes anything: it is a label: what it is worth is what the hold of that sum in a sandbox is worth. -/
noncomputable def Tryf.pinned : Pinned := { name := "qxb6614529afmt", sum := "d950adc20b3e0a27f407baf3aa3d12426ab11ec8df2ebb4e45abb82de0070df4", checked := Tryf.checked }
namespace Rows
def none {H : Type} : Left H := { results := [], args := [] }

/-- 'zzlaws_internal_server_b1.FnTooLargeTextTellsSizeAndOnlySize': WHATEVER THE INPUT: true; the input reads as it did. -/
def fnTooLargeTextTellsSizeAndOnlySizeSpec : ChangeSpec := { name := "fnTooLargeTextTellsSizeAndOnlySize", fn := fun _ => fun
  | [d1, d2] => { results := [.lit (.bool true)], args := [d1, d2] }
  | _ => none }
def fnTooLargeTextTellsSizeAndOnlySizeRow : OpenClaim := { program := "qxb6614529afmt", sum := "d950adc20b3e0a27f407baf3aa3d12426ab11ec8df2ebb4e45abb82de0070df4", func := "example.com/concordat/concordat/zzlaws_internal_server_b1.FnTooLargeTextTellsSizeAndOnlySize", spec := "fnTooLargeTextTellsSizeAndOnlySize", stops := ["fmt.Sprintf"], inPlace := ["fmt.Sprintf"], apart := false }
/-- NO THEOREM (fmt's text is open here; it may be false): for the released tool's asking of the row's closed facts alone. THE STATEMENT IS 'FnTooLargeTextTellsSizeAndOnlySizeToldSaid' (Qxb6614529aFmtCards.lean). -/
def FnTooLargeTextTellsSizeAndOnlySizeFormAsk : Prop := fnTooLargeTextTellsSizeAndOnlySizeRow.holds Tryf.pinned (OpenSpec.ofChange fnTooLargeTextTellsSizeAndOnlySizeSpec)

/-- ITS FALSE NEIGHBOUR: 'it returns false'. Refute it at one input. -/
def fnTooLargeTextTellsSizeAndOnlySizeWrong : ChangeSpec := { name := "fnTooLargeTextTellsSizeAndOnlySize", fn := fun _ => fun
  | [d1, d2] => { results := [.lit (.bool false)], args := [d1, d2] }
  | _ => none }
def FnTooLargeTextTellsSizeAndOnlySizeWrongFormAsk : Prop := fnTooLargeTextTellsSizeAndOnlySizeRow.holds Tryf.pinned (OpenSpec.ofChange fnTooLargeTextTellsSizeAndOnlySizeWrong)

/-- 'zzlaws_internal_server_b1.FnTooLargeScalesAndNegates': WHATEVER THE INPUT: true; the input reads as it did. -/
def fnTooLargeScalesAndNegatesSpec : ChangeSpec := { name := "fnTooLargeScalesAndNegates", fn := fun _ => fun
  | [d] => { results := [.lit (.bool true)], args := [d] }
  | _ => none }
def fnTooLargeScalesAndNegatesRow : OpenClaim := { program := "qxb6614529afmt", sum := "d950adc20b3e0a27f407baf3aa3d12426ab11ec8df2ebb4e45abb82de0070df4", func := "example.com/concordat/concordat/zzlaws_internal_server_b1.FnTooLargeScalesAndNegates", spec := "fnTooLargeScalesAndNegates", stops := ["fmt.Sprintf"], inPlace := ["fmt.Sprintf"], apart := false }
/-- NO THEOREM (fmt's text is open here; it may be false): for the released tool's asking of the row's closed facts alone. THE STATEMENT IS 'FnTooLargeScalesAndNegatesToldSaid' (Qxb6614529aFmtCards.lean). -/
def FnTooLargeScalesAndNegatesFormAsk : Prop := fnTooLargeScalesAndNegatesRow.holds Tryf.pinned (OpenSpec.ofChange fnTooLargeScalesAndNegatesSpec)

/-- ITS FALSE NEIGHBOUR: 'it returns false'. Refute it at one input. -/
def fnTooLargeScalesAndNegatesWrong : ChangeSpec := { name := "fnTooLargeScalesAndNegates", fn := fun _ => fun
  | [d] => { results := [.lit (.bool false)], args := [d] }
  | _ => none }
def FnTooLargeScalesAndNegatesWrongFormAsk : Prop := fnTooLargeScalesAndNegatesRow.holds Tryf.pinned (OpenSpec.ofChange fnTooLargeScalesAndNegatesWrong)

end Rows
end Go.Proofs.Qxb6614529aFmt
