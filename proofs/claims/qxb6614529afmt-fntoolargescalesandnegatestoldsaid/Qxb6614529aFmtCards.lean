/-
  DERIVED. GIVEN WITH THE SEED: THE CARDS: each row of Qxb6614529aFmtRows.lean that lists a variable, with what it lists TIED to the program's text (the seventh form; the later family's looks); each row that meets fmt, with fmt's text TOLD by the authors' own Lean function (tested against real Go, not proved from fmt's source: count such statements apart). THE CARD IS WHAT COUNTS. Prove the row's statement (the work); the ties are given (Qxb6614529aFmtTie.lean); close each card by the builder's one call (the guide's Derived/Test/ToyasCard.lean, 'card_holds'). Laid BY PROGRAM, IN A SANDBOX (cutbox-door.mjs). By AI agents, Wed Nov 11 2026. No macro, syntax, notation, axiom, sorry.
-/
import Derived.Test.Qxb6614529aFmtRows
import GoSem.ClaimSeven
namespace Go.Proofs.Qxb6614529aFmt
namespace Rows

/-- THE TOLD CARD OF 'zzlaws_internal_server_b1.FnTooLargeTextTellsSizeAndOnlySize'. -/
def fnTooLargeTextTellsSizeAndOnlySizeCard : Claim7 := { stood := { row := fnTooLargeTextTellsSizeAndOnlySizeRow, standIns := [], harness := (true, "10a479c463d1db339f61eea544a7a61911b0e4be26efdae089503c7339e1e52f"), looks := false }, told := true, goes := false }
def FnTooLargeTextTellsSizeAndOnlySizeToldSaid : Prop := Claim7.holds Tryf.pinned (.plain (OpenSpec.ofChange fnTooLargeTextTellsSizeAndOnlySizeSpec)) fnTooLargeTextTellsSizeAndOnlySizeCard
/-- ITS FALSE NEIGHBOUR. Refute it at one input. -/
def FnTooLargeTextTellsSizeAndOnlySizeToldWrongFalsely : Prop := Claim7.holds Tryf.pinned (.plain (OpenSpec.ofChange fnTooLargeTextTellsSizeAndOnlySizeWrong)) fnTooLargeTextTellsSizeAndOnlySizeCard

/-- THE TOLD CARD OF 'zzlaws_internal_server_b1.FnTooLargeScalesAndNegates'. -/
def fnTooLargeScalesAndNegatesCard : Claim7 := { stood := { row := fnTooLargeScalesAndNegatesRow, standIns := [], harness := (true, "10a479c463d1db339f61eea544a7a61911b0e4be26efdae089503c7339e1e52f"), looks := false }, told := true, goes := false }
def FnTooLargeScalesAndNegatesToldSaid : Prop := Claim7.holds Tryf.pinned (.plain (OpenSpec.ofChange fnTooLargeScalesAndNegatesSpec)) fnTooLargeScalesAndNegatesCard
/-- ITS FALSE NEIGHBOUR. Refute it at one input. -/
def FnTooLargeScalesAndNegatesToldWrongFalsely : Prop := Claim7.holds Tryf.pinned (.plain (OpenSpec.ofChange fnTooLargeScalesAndNegatesWrong)) fnTooLargeScalesAndNegatesCard
end Rows
end Go.Proofs.Qxb6614529aFmt
