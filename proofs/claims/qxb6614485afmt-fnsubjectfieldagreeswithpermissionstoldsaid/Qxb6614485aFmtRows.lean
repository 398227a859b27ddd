/-
  No cell of these rows narrows 'for every input' (looked for: loops, veiled, ifaces, maps, wideKeys, modest, calm, conditions, laid).
  DERIVED. THE GIVEN ROWS OF THIS SEAT. 1 by the template 'for every input the law returns true; each argument reads behind the call as it read before'; 0 by the template 'total and deterministic' (their statements: Qxb6614485aFmtTotals.lean).
  GIVEN WITH THE SEED: the statements are not yours to turn. If you find one false, say at which input.
  Laid BY PROGRAM, IN A SANDBOX (cutbox-rows.mjs): the forced cells as the released guide's own fill.sh prints them over the translation 3ef44e7ceefcf81c… (all of the seat's roots in one cut). By AI agents, Wed Nov 11 2026. No macro, syntax, notation, axiom, sorry.
-/
import Derived.Test.Qxb6614485aFmtChecked
import GoSem.Claim
import GoSem.ClaimJoined
import GoSem.ClaimMapViews
import Derived.JoinedTies
import Derived.KernelRfl
namespace Go.Proofs.Qxb6614485aFmt
/- THE CELL 'sum', in the pinned program and in every row, IS THE sha256 OF THE DUMP (.gsa) THAT Qxb6614485aFmtProg.lean LOADS. Nothing in Lean hashes anything: it is a label: what it is worth is what the hold of that sum in a sandbox is worth. -/
noncomputable def Tryf.pinned : Pinned := { name := "qxb6614485afmt", sum := "3ef44e7ceefcf81c703c89e3efbd9221c29a57c8c97f6297017ddb2d23cdf71b", checked := Tryf.checked }
namespace Rows
def none {H : Type} : Left H := { results := [], args := [] }

/-- 'zzlaws_root_b1.FnSubjectFieldAgreesWithPermissions': WHATEVER THE INPUT: true; the input reads as it did. -/
def fnSubjectFieldAgreesWithPermissionsSpec : ChangeSpec := { name := "fnSubjectFieldAgreesWithPermissions", fn := fun _ => fun
  | [d1, d2, d3] => { results := [.lit (.bool true)], args := [d1, d2, d3] }
  | _ => none }
def fnSubjectFieldAgreesWithPermissionsRow : OpenClaim := { program := "qxb6614485afmt", sum := "3ef44e7ceefcf81c703c89e3efbd9221c29a57c8c97f6297017ddb2d23cdf71b", func := "example.com/gatewright/gatewright/zzlaws_root_b1.FnSubjectFieldAgreesWithPermissions", spec := "fnSubjectFieldAgreesWithPermissions", stops := ["fmt.errorf"], inPlace := ["internal/abi.NoEscape", "internal/bytealg.MakeNoZero", "fmt.errorf", "(*sync.RWMutex).RLock", "internal/race.Read", "internal/race.Disable", "sync/atomic.AddInt32", "sync.runtime_SemacquireRWMutexR", "internal/race.Enable", "internal/race.Acquire", "(*sync.RWMutex).RUnlock", "internal/race.ReleaseMerge", "(*sync.RWMutex).rUnlockSlow", "sync.fatal", "sync.runtime_Semrelease"], unfollowed := true, recurses := true, plainKeys := false, apart := false }
/-- NO THEOREM (fmt's text is open here; it may be false): for the released tool's asking of the row's closed facts alone. THE STATEMENT IS 'FnSubjectFieldAgreesWithPermissionsToldSaid' (Qxb6614485aFmtCards.lean). -/
def FnSubjectFieldAgreesWithPermissionsFormAsk : Prop := fnSubjectFieldAgreesWithPermissionsRow.holds Tryf.pinned (OpenSpec.ofChange fnSubjectFieldAgreesWithPermissionsSpec)

/-- ITS FALSE NEIGHBOUR: 'it returns false'. Refute it at one input. -/
def fnSubjectFieldAgreesWithPermissionsWrong : ChangeSpec := { name := "fnSubjectFieldAgreesWithPermissions", fn := fun _ => fun
  | [d1, d2, d3] => { results := [.lit (.bool false)], args := [d1, d2, d3] }
  | _ => none }
def FnSubjectFieldAgreesWithPermissionsWrongFormAsk : Prop := fnSubjectFieldAgreesWithPermissionsRow.holds Tryf.pinned (OpenSpec.ofChange fnSubjectFieldAgreesWithPermissionsWrong)

end Rows
end Go.Proofs.Qxb6614485aFmt
