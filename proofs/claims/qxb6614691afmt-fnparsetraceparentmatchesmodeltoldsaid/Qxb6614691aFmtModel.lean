/- The contract of zzModelTraceparent (5). -/
import Derived.Test.Qxb6614691aFmtTop
import Derived.BigRegion
import Derived.Deep.QuietTactic
import Derived.BigQuiet
namespace Go.Proofs.Qxb6614691aFmt
open Go.RowKit
def zero16 : Array Value := #[.int .u8 0, .int .u8 0, .int .u8 0, .int .u8 0, .int .u8 0, .int .u8 0, .int .u8 0, .int .u8 0, .int .u8 0, .int .u8 0, .int .u8 0, .int .u8 0, .int .u8 0, .int .u8 0, .int .u8 0, .int .u8 0]
def zero8 : Array Value := #[.int .u8 0, .int .u8 0, .int .u8 0, .int .u8 0, .int .u8 0, .int .u8 0, .int .u8 0, .int .u8 0]
theorem Tryf.size23 : (Tryf.prog.info? 23).map (·.size) = some 16 := by kernel_rfl
theorem Tryf.size25 : (Tryf.prog.info? 25).map (·.size) = some 8 := by kernel_rfl
/-- the results of zzModelTraceparent -/
theorem results_model (tmps : Array Value) (w : World) (g1 g2 : Nat) (c1 c2 : Array Value) (v0 v3 : Value)
    (h0 : tmps.getD 2 undef = v0) (h1 : tmps.getD 3 undef = .pointer (some ⟨g1, 0, none⟩)) (h2 : tmps.getD 4 undef = .pointer (some ⟨g2, 0, none⟩)) (h3 : tmps.getD 5 undef = v3)
    (hg1 : w.heap[g1]? = some (.cells c1 23 (0, 0))) (hs1 : c1.size = 16) (hg2 : w.heap[g2]? = some (.cells c2 25 (0, 0))) (hs2 : c2.size = 8) :
    (results Tryf.f5 tmps).run Tryf.prog w = .ok (.tuple #[v0, .agg c1, .agg c2, v3]) w := by
  have e1 := run_loadVar_row (P := Tryf.prog) w g1 23 23 c1 (0, 0) _ hg1 Tryf.underlying23 rfl (by rw [Tryf.size23, hs1])
  have e2 := run_loadVar_row (P := Tryf.prog) w g2 25 25 c2 (0, 0) _ hg2 Tryf.underlying25 rfl (by rw [Tryf.size25, hs2])
  have h0' : tmps[2]?.getD undef = v0 := by simpa using h0
  have h1' : tmps[3]?.getD undef = .pointer (some ⟨g1, 0, none⟩) := by simpa using h1
  have h2' : tmps[4]?.getD undef = .pointer (some ⟨g2, 0, none⟩) := by simpa using h2
  have h3' : tmps[5]?.getD undef = v3 := by simpa using h3
  simp [results, Tryf.results5, h0', h1', h2', h3', asAddr, e1, e2, Result.andThen]
def world4 (w : World) : World := (((w.alloc (.cells zero16 23)).alloc (.cells zero8 25)).alloc (.cells zero16 23)).alloc (.cells zero8 25)
theorem world4_blk (w : World) : (world4 w).heap[w.heap.size]? = some (.cells zero16 23 (0, 0)) ∧ (world4 w).heap[w.heap.size + 1]? = some (.cells zero8 25 (0, 0)) ∧ Below w.heap.size w (world4 w) := by
  unfold world4
  refine ⟨?_, ?_, ?_⟩
  · rw [Below.heap_alloc _ _ _ (by simp; omega), Below.heap_alloc _ _ _ (by simp; omega)]; exact heap_alloc2_old _ _ _
  · rw [Below.heap_alloc _ _ _ (by simp), Below.heap_alloc _ _ _ (by simp)]; exact heap_alloc2_new _ _ _
  · exact ((((Below.refl _ _).alloc (Nat.le_refl _) _).alloc (by simp) _).alloc (by simp; omega) _).alloc (by simp; omega) _
set_option maxHeartbeats 1000000 in
theorem model_short (s : ByteArray) (w : World) (h : s.size < 55) :
    Calls Tryf.prog 5 #[.string s] w fun e w' => e = .returned (.tuple #[.bool false, .agg zero16, .agg zero8, .int .u8 0]) ∧ Below w.heap.size w w' := by
  go_enter Tryf.func5, Tryf.ntmps5
  go_wp2
  go_region
  go_wp2
  obtain ⟨b1, b2, b3⟩ := world4_blk w
  exact bodyPost_ret (v := .tuple #[.bool false, .agg zero16, .agg zero8, .int .u8 0]) (results_model _ (world4 w).drew w.heap.size (w.heap.size + 1) zero16 zero8 _ _ rfl rfl rfl rfl b1 rfl b2 rfl) rfl ⟨rfl, b3.drew⟩
/-- what the model asks of each of the first 55 characters -/
def okAt (s : ByteArray) (j : Nat) : Prop := (j = 2 ∨ j = 35 ∨ j = 52 → byt s j = 45) ∧ (¬ (j = 2 ∨ j = 35 ∨ j = 52) → goodAt s j)
end Go.Proofs.Qxb6614691aFmt
