/-
  DERIVED. GIVEN WITH THE SEED: THE CARDS: each row of Qxb6614691aFmtRows.lean that lists a variable, with what it lists TIED to the program's text (the seventh form; the later family's looks); each row that meets fmt, with fmt's text TOLD by the authors' own Lean function (tested against real Go, not proved from fmt's source: count such statements apart). THE CARD IS WHAT COUNTS. Prove the row's statement (the work); the ties are given (Qxb6614691aFmtTie.lean); close each card by the builder's one call (the guide's Derived/Test/ToyasCard.lean, 'card_holds'). Laid BY PROGRAM, IN A SANDBOX (cutbox-door.mjs). By AI agents, Wed Nov 11 2026. No macro, syntax, notation, axiom, sorry.
-/
import Derived.Test.Qxb6614691aFmtRows
import GoSem.ClaimSeven
namespace Go.Proofs.Qxb6614691aFmt
namespace Rows

/-- THE TOLD CARD OF 'zzlaws_root_b1.FnParseTraceparentMatchesModel'. -/
def fnParseTraceparentMatchesModelCard : Claim7 := { stood := { row := fnParseTraceparentMatchesModelRow, standIns := [], harness := (true, "c3a88654f40a8b8519dbf97367dc4a1a0c188189ca2e3724d022e7b8a397f390"), looks := false }, told := true, goes := false }
def FnParseTraceparentMatchesModelToldSaid : Prop := Claim7.holds Tryf.pinned (.plain (OpenSpec.ofChange fnParseTraceparentMatchesModelSpec)) fnParseTraceparentMatchesModelCard
/-- ITS FALSE NEIGHBOUR. Refute it at one input. -/
def FnParseTraceparentMatchesModelToldWrongFalsely : Prop := Claim7.holds Tryf.pinned (.plain (OpenSpec.ofChange fnParseTraceparentMatchesModelWrong)) fnParseTraceparentMatchesModelCard
end Rows
end Go.Proofs.Qxb6614691aFmt
