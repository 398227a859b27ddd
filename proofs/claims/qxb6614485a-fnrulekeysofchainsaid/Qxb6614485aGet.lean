/- The keys' getters (16 .. 21, 23). -/
import Derived.Test.Qxb6614485aConj
import Derived.Test.Qxb6614485aAsk
import Derived.OneCell
import Derived.BigRegion
namespace Go.Proofs.Qxb6614485a
open Go.RowKit
attribute [local go_sem] as_53_53
theorem below1 (w : World) (o : Obj) : Below w.heap.size w (w.alloc o) := (Below.refl _ _).alloc (Nat.le_refl _) o
set_option maxHeartbeats 1000000 in
theorem cntF (w : World) (a : Option Addr) (n c : Nat) (vv vr vz : Value) : Calls Try.prog 16 #[.agg #[.slice a n c, vv, vr, vz]] w fun e w' => e = .returned (.int .i64 n) ∧ Below w.heap.size w w' := by
  go_enter Try.func16, Try.ntmps16
  go_wp2
  go_ret
  exact ⟨rfl, below1 _ _⟩
set_option maxHeartbeats 1000000 in
theorem cntV (w : World) (a : Option Addr) (n c : Nat) (vf vr vz : Value) : Calls Try.prog 17 #[.agg #[vf, .slice a n c, vr, vz]] w fun e w' => e = .returned (.int .i64 n) ∧ Below w.heap.size w w' := by
  go_enter Try.func17, Try.ntmps17
  go_wp2
  go_ret
  exact ⟨rfl, below1 _ _⟩
set_option maxHeartbeats 1000000 in
theorem cntR (w : World) (a : Option Addr) (n c : Nat) (vf vv vz : Value) : Calls Try.prog 18 #[.agg #[vf, vv, .slice a n c, vz]] w fun e w' => e = .returned (.int .i64 n) ∧ Below w.heap.size w w' := by
  go_enter Try.func18, Try.ntmps18
  go_wp2
  go_ret
  exact ⟨rfl, below1 _ _⟩
set_option maxHeartbeats 1000000 in
theorem getZ (w : World) (vf vv vr vz : Value) : Calls Try.prog 23 #[.agg #[vf, vv, vr, vz]] w fun e w' => e = .returned vz ∧ Below w.heap.size w w' := by
  go_enter Try.func23, Try.ntmps23
  go_wp2
  go_ret
  exact ⟨rfl, below1 _ _⟩
set_option maxHeartbeats 1000000 in
theorem getF (w : World) (g n c i : Nat) (a : Int) (vv vr vz : Value) (hc : w.cell? ⟨g, i, none⟩ = some (.int .i64 a)) (hi : i < n) (hg : g < w.heap.size) :
    Calls Try.prog 19 #[.agg #[.slice (some ⟨g, 0, none⟩) n c, vv, vr, vz], .int .i64 i] w fun e w' => e = .returned (.int .i64 a) ∧ Below w.heap.size w w' := by
  go_enter Try.func19, Try.ntmps19
  go_wp2
  go_ret
  exact ⟨rfl, below1 _ _⟩
set_option maxHeartbeats 1000000 in
theorem getR (w : World) (g n c i : Nat) (a : Int) (vf vv vz : Value) (hc : w.cell? ⟨g, i * 2 + 1, none⟩ = some (.int .i64 a)) (hi : i < n) (hg : g < w.heap.size) :
    Calls Try.prog 21 #[.agg #[vf, vv, .slice (some ⟨g, 0, none⟩) n c, vz], .int .i64 i] w fun e w' => e = .returned (.int .i64 a) ∧ Below w.heap.size w w' := by
  go_enter Try.func21, Try.ntmps21
  go_wp2
  go_ret
  exact ⟨rfl, below1 _ _⟩
set_option maxHeartbeats 1000000 in
theorem getV (w : World) (g n c i : Nat) (b : Int) (vf vr vz : Value) (hc : w.cell? ⟨g, i * 4, none⟩ = some (fieldV false b)) (hi : i < n) (hg : g < w.heap.size) :
    Calls Try.prog 20 #[.agg #[vf, .slice (some ⟨g, 0, none⟩) n c, vr, vz], .int .i64 i] w fun e w' => e = .returned (.tuple #[.bool true, .bool false, .int .i64 b]) ∧ Below w.heap.size w w' := by
  go_enter Try.func20, Try.ntmps20
  go_wp2_with fail
  go_region
  go_wp2_with fail
  go_ret3
  exact ⟨rfl, (below2 _ _ _).drew⟩
end Go.Proofs.Qxb6614485a
