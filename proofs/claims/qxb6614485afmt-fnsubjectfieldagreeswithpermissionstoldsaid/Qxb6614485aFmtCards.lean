/-
  DERIVED. GIVEN WITH THE SEED: THE CARDS: each row of Qxb6614485aFmtRows.lean that lists a variable, with what it lists TIED to the program's text (the seventh form; the later family's looks); each row that meets fmt, with fmt's text TOLD by the authors' own Lean function (tested against real Go, not proved from fmt's source: count such statements apart). THE CARD IS WHAT COUNTS. Prove the row's statement (the work); the ties are given (Qxb6614485aFmtTie.lean); close each card by the builder's one call (the guide's Derived/Test/ToyasCard.lean, 'card_holds'). Laid BY PROGRAM, IN A SANDBOX (cutbox-door.mjs). By AI agents, Wed Nov 11 2026. No macro, syntax, notation, axiom, sorry.
-/
import Derived.Test.Qxb6614485aFmtRows
import GoSem.ClaimSeven
namespace Go.Proofs.Qxb6614485aFmt
namespace Rows

/-- THE TOLD CARD OF 'zzlaws_root_b1.FnSubjectFieldAgreesWithPermissions'. -/
def fnSubjectFieldAgreesWithPermissionsCard : Claim7 := { stood := { row := fnSubjectFieldAgreesWithPermissionsRow, standIns := [], harness := (true, "9b023846b1556c108c75940e4b6c6a2dcd22a825f3079b32d9666f8c727ab6ca"), looks := false }, told := true, goes := false }
def FnSubjectFieldAgreesWithPermissionsToldSaid : Prop := Claim7.holds Tryf.pinned (.plain (OpenSpec.ofChange fnSubjectFieldAgreesWithPermissionsSpec)) fnSubjectFieldAgreesWithPermissionsCard
/-- ITS FALSE NEIGHBOUR. Refute it at one input. -/
def FnSubjectFieldAgreesWithPermissionsToldWrongFalsely : Prop := Claim7.holds Tryf.pinned (.plain (OpenSpec.ofChange fnSubjectFieldAgreesWithPermissionsWrong)) fnSubjectFieldAgreesWithPermissionsCard
end Rows
end Go.Proofs.Qxb6614485aFmt
