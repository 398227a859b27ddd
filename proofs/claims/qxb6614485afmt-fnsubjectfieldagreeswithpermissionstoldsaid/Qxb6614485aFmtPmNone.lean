/- permsMatch (11) where there is no rule, and the rows' other plain needs. -/
import Derived.Test.Qxb6614485aFmtPerm
namespace Go.Proofs.Qxb6614485aFmt
open Go.RowKit
set_option maxHeartbeats 1000000 in
set_option maxRecDepth 100000 in
theorem pm_none (w : World) (a ar : Option Addr) (cp cr : Nat) (sub width : Int) (name : ByteArray) :
    Calls Tryf.prog 11 #[.slice a 0 cp, .slice ar 0 cr, .int .i64 sub, .int .i64 width, .string name] w fun e w' => e = .returned (.bool true) ∧ Below w.heap.size w w' := by
  obtain ⟨i4, hi4, hz40, hz41, hz42⟩ := info_parts Tryf.info4
  go_enter Tryf.func11, Tryf.ntmps11
  go_wp2_with fail
  go_loopw [11] (fun i wr => i = .int .i64 0 ∧ w = wr) (fun _ _ => 0)
  case atStart => exact ⟨rfl, rfl⟩
  case round =>
    obtain ⟨rfl, rfl⟩ := hrel
    go_wp2_with (at_make; refine wpList_make_full _ rfl _ _ 74 rfl w.heap.size 4 i4 (.bool false) 1 Tryf.underlying74 hi4 hz40 hz41 _ _ _ _ 0 rfl rfl (by rfl) (by rfl) (by rw [hz42]; omega) (by unfold maxLen; omega) (by omega) ?_; intro w1 hown hgrow)
    have hb1 : Below w.heap.size w w1 := (Below.refl _ _).grown hgrow (Nat.le_refl _) (fun k h => by cases h)
    clear hown hgrow
    go_loopw [64] (fun i wr => i = .int .i64 0 ∧ w1 = wr) (fun _ _ => 0)
    case atStart => exact ⟨rfl, rfl⟩
    case round =>
      obtain ⟨rfl, rfl⟩ := hrel
      go_wp2_with fail
      go_loopw [114] (fun i wr => i = .int .i64 0 ∧ w1 = wr) (fun _ _ => 0)
      case atStart => exact ⟨rfl, rfl⟩
      case round =>
        obtain ⟨rfl, rfl⟩ := hrel
        go_wp2_with fail
        go_ret
        exact ⟨rfl, hb1⟩
end Go.Proofs.Qxb6614485aFmt
