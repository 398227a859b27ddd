/-
  No cell of these rows narrows 'for every input' (looked for: loops, veiled, ifaces, maps, wideKeys, modest, calm, conditions, laid).
  DERIVED. THE GIVEN ROWS OF THIS SEAT. 1 by the template 'for every input the law returns true; each argument reads behind the call as it read before'; 0 by the template 'total and deterministic' (their statements: Qxb6614691aFmtTotals.lean).
  GIVEN WITH THE SEED: the statements are not yours to turn. If you find one false, say at which input.
  Laid BY PROGRAM, IN A SANDBOX (cutbox-rows.mjs): the forced cells as the released guide's own fill.sh prints them over the translation 3297d145e9251985… (all of the seat's roots in one cut). By AI agents, Wed Nov 11 2026. No macro, syntax, notation, axiom, sorry.
-/
import Derived.Test.Qxb6614691aFmtChecked
import GoSem.Claim
import GoSem.ClaimJoined
import GoSem.ClaimMapViews
import Derived.JoinedTies
import Derived.KernelRfl
namespace Go.Proofs.Qxb6614691aFmt
/- THE CELL 'sum', in the pinned program and in every row, IS THE sha256 OF THE DUMP (.gsa) THAT Qxb6614691aFmtProg.lean LOADS. Nothing in Lean hashes anything: it is a label: what it is worth is what the hold of that sum in a sandbox is worth. -/
noncomputable def Tryf.pinned : Pinned := { name := "qxb6614691afmt", sum := "3297d145e925198549fa3e51a195f5ac21623d295963fc8abb748d1abf636f45", checked := Tryf.checked }
namespace Rows
def none {H : Type} : Left H := { results := [], args := [] }

/-- 'zzlaws_root_b1.FnParseTraceparentMatchesModel': WHATEVER THE INPUT: true; the input reads as it did. -/
def fnParseTraceparentMatchesModelSpec : ChangeSpec := { name := "fnParseTraceparentMatchesModel", fn := fun _ => fun
  | [d1, d2] => { results := [.lit (.bool true)], args := [d1, d2] }
  | _ => none }
def fnParseTraceparentMatchesModelRow : OpenClaim := { program := "qxb6614691afmt", sum := "3297d145e925198549fa3e51a195f5ac21623d295963fc8abb748d1abf636f45", func := "example.com/nimble-trace/nimble-trace/zzlaws_root_b1.FnParseTraceparentMatchesModel", spec := "fnParseTraceparentMatchesModel", stops := ["fmt.errorf"], inPlace := ["fmt.errorf"], apart := false }
/-- NO THEOREM (fmt's text is open here; it may be false): for the released tool's asking of the row's closed facts alone. THE STATEMENT IS 'FnParseTraceparentMatchesModelToldSaid' (Qxb6614691aFmtCards.lean). -/
def FnParseTraceparentMatchesModelFormAsk : Prop := fnParseTraceparentMatchesModelRow.holds Tryf.pinned (OpenSpec.ofChange fnParseTraceparentMatchesModelSpec)

/-- ITS FALSE NEIGHBOUR: 'it returns false'. Refute it at one input. -/
def fnParseTraceparentMatchesModelWrong : ChangeSpec := { name := "fnParseTraceparentMatchesModel", fn := fun _ => fun
  | [d1, d2] => { results := [.lit (.bool false)], args := [d1, d2] }
  | _ => none }
def FnParseTraceparentMatchesModelWrongFormAsk : Prop := fnParseTraceparentMatchesModelRow.holds Tryf.pinned (OpenSpec.ofChange fnParseTraceparentMatchesModelWrong)

end Rows
end Go.Proofs.Qxb6614691aFmt
