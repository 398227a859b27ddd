/- ruleKey (26), givenByRequest (32), roleKeyOf (27). -/
import Derived.Test.Qxb6614485aConj
import Derived.Test.Qxb6614485aAsk
import Derived.OneCell
import Derived.BigRegion
import Derived.Deep.QuietTactic
import Derived.BigQuiet
import Derived.Laws.ResultCell
namespace Go.Proofs.Qxb6614485a
open Go.RowKit
theorem idx0 (a b c d : Value) (w : World) : (Instr.index 96 (.agg #[a, b, c, d]) (.int .i64 0)).run Try.prog w = .ok (.agg #[a, b]) w := by kernel_rfl
theorem idx1 (a b c d : Value) (w : World) : (Instr.index 96 (.agg #[a, b, c, d]) (.int .i64 1)).run Try.prog w = .ok (.agg #[c, d]) w := by kernel_rfl
attribute [local go_sem] idx0 idx1 as_53_53 as_53_82 as_53_86 as_53_43 as_53_59 as_53_87 as_53_50 as_53_91 as_53_56 as_53_62 as_50_53 as_50_82 as_50_86 as_50_43 as_50_59 as_50_87 as_50_50 as_50_91 as_50_56 as_50_62 as_56_53 as_56_82 as_56_86 as_56_43 as_56_59 as_56_87 as_56_50 as_56_91 as_56_56 as_56_62 as_59_53 as_59_82 as_59_86 as_59_43 as_59_59 as_59_87 as_59_50 as_59_91 as_59_56 as_59_62 as_62_53 as_62_82 as_62_86 as_62_43 as_62_59 as_62_87 as_62_50 as_62_91 as_62_56 as_62_62 as_43_53 as_43_82 as_43_86 as_43_43 as_43_59 as_43_87 as_43_50 as_43_91 as_43_56 as_43_62
set_option maxHeartbeats 1000000 in
theorem given (w : World) (p q : Nat) (r : Bool) (i : Int) (hc : w.cell? ⟨p, q, none⟩ = some (fieldV r i)) :
    Calls Try.prog 32 #[.pointer (some ⟨p, q, none⟩)] w fun e w' => e = .returned (.bool (!r)) ∧ w.alloc (.cells #[.bool r, .int .i64 i] 53) = w' := by
  go_enter Try.func32, Try.ntmps32
  go_wp2
  go_ret
  exact ⟨rfl, rfl⟩
/-- a cell below the new blocks -/
theorem cell_far2 (w : World) (o p : Obj) (a : Addr) (h : a.block < w.heap.size) : ((w.alloc o).alloc p).drew.cell? a = w.cell? a :=
  World.cell?_of_block (w := w) (by show ((w.alloc o).alloc p).heap[a.block]? = _; rw [Below.heap_alloc _ _ _ (by simp; omega), Below.heap_alloc _ _ _ h])
theorem cell_far3 (w : World) (o p r : Obj) (a : Addr) (h : a.block < w.heap.size) : (((w.alloc o).alloc p).alloc r).cell? a = w.cell? a :=
  World.cell?_of_block (w := w) (by rw [Below.heap_alloc _ _ _ (by simp; omega), Below.heap_alloc _ _ _ (by simp; omega), Below.heap_alloc _ _ _ h])
theorem cell_far4 (w : World) (o p r s : Obj) (a : Addr) (h : a.block < w.heap.size) : ((((w.alloc o).alloc p).alloc r).alloc s).drew.cell? a = w.cell? a :=
  World.cell?_of_block (w := w) (by show ((((w.alloc o).alloc p).alloc r).alloc s).heap[a.block]? = _; rw [Below.heap_alloc _ _ _ (by simp; omega), Below.heap_alloc _ _ _ (by simp; omega), Below.heap_alloc _ _ _ (by simp; omega), Below.heap_alloc _ _ _ h])
set_option maxHeartbeats 1000000 in
set_option maxRecDepth 100000 in
theorem rule0 (w : World) (p q k : Nat) (a b : Int) (hc : w.cell? ⟨p, q, none⟩ = some (.iface 50 (.pointer (some ⟨k, 0, none⟩))))
    (h0 : w.cell? ⟨k, 0, none⟩ = some (.int .i64 0)) (h1 : w.cell? ⟨k, 1, none⟩ = some (fieldV true a)) (h5 : w.cell? ⟨k, 5, none⟩ = some (fieldV false b)) (hk : k < w.heap.size) :
    Calls Try.prog 26 #[.pointer (some ⟨p, q, none⟩)] w fun e w' => e = .returned (.tuple #[.int .i64 a, .pointer (some ⟨k, 5, none⟩), .bool true]) ∧ Below w.heap.size w w' := by
  have HG : Hid (∀ o p, ((w.alloc o).alloc p).drew.cell? ⟨k, 5, none⟩ = some (fieldV false b)) := fun o p => (cell_far2 w o p _ hk).trans h5
  go_enter Try.func26, Try.ntmps26
  go_wp2_with fail
  go_region
  go_wp2_with fail
  refine wp_loop_rounds 3 ?_
  rw [rounds_succ]
  go_wp2_with (go_at_call 32; refine (given _ k 5 false b (HG.out _ _)).mono ?_; rintro e w1 ⟨rfl, rfl⟩)
  go_region
  go_wp2_with fail
  go_ret3
  exact ⟨rfl, (((below2 _ _ _).alloc (by simp; omega) _).drew).drew⟩
set_option maxHeartbeats 1000000 in
set_option maxRecDepth 100000 in
theorem rule1 (w : World) (p q k : Nat) (a b : Int) (hc : w.cell? ⟨p, q, none⟩ = some (.iface 50 (.pointer (some ⟨k, 0, none⟩))))
    (h0 : w.cell? ⟨k, 0, none⟩ = some (.int .i64 0)) (h1 : w.cell? ⟨k, 1, none⟩ = some (fieldV false b)) (h5 : w.cell? ⟨k, 5, none⟩ = some (fieldV true a)) (hk : k < w.heap.size) :
    Calls Try.prog 26 #[.pointer (some ⟨p, q, none⟩)] w fun e w' => e = .returned (.tuple #[.int .i64 a, .pointer (some ⟨k, 1, none⟩), .bool true]) ∧ Below w.heap.size w w' := by
  have HG : Hid (∀ o p r s, ((((w.alloc o).alloc p).alloc r).alloc s).drew.cell? ⟨k, 1, none⟩ = some (fieldV false b)) := fun o p r s => (cell_far4 w o p r s _ hk).trans h1
  have h53 : ∀ o p r, (((w.alloc o).alloc p).alloc r).cell? ⟨k, 5, none⟩ = some (fieldV true a) := fun o p r => (cell_far3 w o p r _ hk).trans h5
  go_enter Try.func26, Try.ntmps26
  go_wp2_with fail
  go_region
  go_wp2_with fail
  refine wp_loop_rounds 3 ?_
  rw [rounds_succ]
  go_wp2_with fail
  rw [rounds_succ]
  go_wp2_with (go_at_call 32; refine (given _ k 1 false b (HG.out _ _ _ _)).mono ?_; rintro e w1 ⟨rfl, rfl⟩)
  go_region
  go_wp2_with fail
  go_ret3
  exact ⟨rfl, (((((below2 _ _ _).alloc (by simp; omega) _).alloc (by simp; omega) _).alloc (by simp; omega) _).drew).drew⟩
set_option maxHeartbeats 1000000 in
set_option maxRecDepth 100000 in
theorem rule2 (w : World) (p q : Nat) (x : Value) (hc : w.cell? ⟨p, q, none⟩ = some (.iface 56 x)) :
    Calls Try.prog 26 #[.pointer (some ⟨p, q, none⟩)] w fun e w' => e = .returned (.tuple #[.int .i64 0, .pointer none, .bool false]) ∧ w = w' := by
  go_enter Try.func26, Try.ntmps26
  go_wp2_with fail
  go_ret3
  exact ⟨rfl, rfl⟩
set_option maxHeartbeats 1000000 in
set_option maxRecDepth 100000 in
theorem rule3 (w : World) (p q : Nat) (x : Value) (hc : w.cell? ⟨p, q, none⟩ = some (.iface 59 x)) :
    Calls Try.prog 26 #[.pointer (some ⟨p, q, none⟩)] w fun e w' => e = .returned (.tuple #[.int .i64 0, .pointer none, .bool false]) ∧ w = w' := by
  go_enter Try.func26, Try.ntmps26
  go_wp2_with fail
  go_ret3
  exact ⟨rfl, rfl⟩
theorem Try.size73 : (Try.prog.info? 73).map (·.size) = some 2 := by kernel_rfl
/-- the results of roleKeyOf -/
theorem results_role {fn : Func} {p u : Tmp} (h : fn.results = #[.cell p 73, .tmp u]) (tmps : Array Value) (w : World) (g : Nat) (cs : Array Value) (v : Value)
    (hp : tmps.getD p undef = .pointer (some ⟨g, 0, none⟩)) (hu : tmps.getD u undef = v) (hg : w.heap[g]? = some (.cells cs 73 (0, 0))) (hs : cs.size = 2) :
    (results fn tmps).run Try.prog w = .ok (.tuple #[.agg cs, v]) w := by
  rw [results_cell_tmp h, hp, hu]
  have h2 := run_loadVar_row (P := Try.prog) w g 73 73 cs (0, 0) _ hg Try.underlying73 rfl (by rw [Try.size73, hs])
  simp [asAddr, Result.andThen, h2]
set_option maxHeartbeats 1000000 in
set_option maxRecDepth 100000 in
theorem role2 (w : World) (p q k : Nat) (a b : Int) (hc : w.cell? ⟨p, q, none⟩ = some (.iface 56 (.pointer (some ⟨k, 0, none⟩)))) (hp : p < w.heap.size)
    (h1 : w.cell? ⟨k, 1, none⟩ = some (fieldV false b)) (h5 : w.cell? ⟨k, 5, none⟩ = some (fieldV true a)) (h9 : w.cell? ⟨k, 9, none⟩ = some (.pointer none)) (hk : k < w.heap.size) :
    Calls Try.prog 27 #[.pointer (some ⟨p, q, none⟩)] w fun e w' => e = .returned (.tuple #[.agg #[.pointer (some ⟨k, 0, none⟩), .int .i64 a], .bool true]) ∧ Below w.heap.size w w' := by
  have HG : Hid (∀ o p, ((w.alloc o).alloc p).cell? ⟨k, 1, none⟩ = some (fieldV false b)) := fun o p => (cell_far2 w o p _ hk).trans h1
  have h93 : ∀ o p r, (((w.alloc o).alloc p).alloc r).cell? ⟨k, 9, none⟩ = some (.pointer none) := fun o p r => (cell_far3 w o p r _ hk).trans h9
  go_enter Try.func27, Try.ntmps27
  go_wp2_with (go_at_call 32; refine (given _ k 1 false b (HG.out _ _)).mono ?_; rintro e w1 ⟨rfl, rfl⟩)
  refine bodyPost_ret (results_role rfl _ _ w.heap.size #[.pointer (some ⟨k, 0, none⟩), .int .i64 a] (.bool true) rfl rfl ?_ rfl) rfl ⟨rfl, (below2 _ _ _).alloc (by simp; omega) _⟩
  rw [Below.heap_alloc _ _ _ (by simp; omega)]
  exact heap_alloc2_old _ _ _
set_option maxHeartbeats 1000000 in
set_option maxRecDepth 100000 in
theorem role3 (w : World) (p q : Nat) (x : Value) (hc : w.cell? ⟨p, q, none⟩ = some (.iface 59 x)) (hp : p < w.heap.size) :
    Calls Try.prog 27 #[.pointer (some ⟨p, q, none⟩)] w fun e w' => e = .returned (.tuple #[.agg #[.pointer none, .int .i64 0], .bool false]) ∧ Below w.heap.size w w' := by
  go_enter Try.func27, Try.ntmps27
  go_wp2_with fail
  exact bodyPost_ret (results_role rfl _ _ w.heap.size #[.pointer none, .int .i64 0] (.bool false) rfl rfl (heap_alloc_new _ _) rfl) rfl ⟨rfl, (Below.refl _ _).alloc (Nat.le_refl _) _⟩
theorem bin_all {w : World} {k : Nat} {y z : Value} (h : w.heap[k]? = some (.cells (binC y z) 55 (0, 0))) : w.cell? ⟨k, 0, none⟩ = some (.int .i64 0) ∧ (∀ j, j < 4 → w.cell? ⟨k, 1 + j, none⟩ = (opnd y)[j]?) ∧ (∀ j, j < 4 → w.cell? ⟨k, 5 + j, none⟩ = (opnd z)[j]?) := by
  refine ⟨by rw [cell_of_row w k _ _ 55 (0, 0) h]; rfl, fun j hj => ?_, fun j hj => ?_⟩ <;> rw [cell_of_row w k _ _ 55 (0, 0) h]
  · rcases (by omega : j = 0 ∨ j = 1 ∨ j = 2 ∨ j = 3) with rfl | rfl | rfl | rfl <;> rfl
  · rcases (by omega : j = 0 ∨ j = 1 ∨ j = 2 ∨ j = 3) with rfl | rfl | rfl | rfl <;> rfl
theorem blk_lt {w : World} {k : Nat} {o : Obj} (h : w.heap[k]? = some o) : k < w.heap.size := (Array.getElem?_eq_some_iff.1 h).1
/-- ruleKey at an equality -/
theorem rule_yes (w : World) (p q B : Nat) (t a b : Int) (x : Value) (hc : w.cell? ⟨p, q, none⟩ = some x) (hx : IsConj w B t a b x) (ht : t = 0 ∨ t = 1) :
    Calls Try.prog 26 #[.pointer (some ⟨p, q, none⟩)] w fun e w' => ∃ k o, e = .returned (.tuple #[.int .i64 a, .pointer (some ⟨k, o, none⟩), .bool true]) ∧ k < B ∧ k < w.heap.size ∧ (∀ j, j < 4 → w.cell? ⟨k, o + j, none⟩ = (opnd (fieldV false b))[j]?) ∧ Below w.heap.size w w' := by
  rcases hx with ⟨rfl, k, k1, rfl, k2⟩ | ⟨rfl, k, k1, rfl, k2⟩ | ⟨rfl, _⟩ | ⟨rfl, _⟩ | ⟨rfl, _⟩
  · obtain ⟨b0, b1, b5⟩ := bin_all k2
    refine (rule0 w p q k a b hc b0 (b1 0 (by omega)) (b5 0 (by omega)) (blk_lt k2)).mono ?_
    rintro e w' ⟨he, hb⟩
    exact ⟨k, 5, he, k1, blk_lt k2, b5, hb⟩
  · obtain ⟨b0, b1, b5⟩ := bin_all k2
    refine (rule1 w p q k a b hc b0 (b1 0 (by omega)) (b5 0 (by omega)) (blk_lt k2)).mono ?_
    rintro e w' ⟨he, hb⟩
    exact ⟨k, 1, he, k1, blk_lt k2, b1, hb⟩
  · omega
  · omega
  · omega
theorem rule_no (w : World) (p q B : Nat) (t a b : Int) (x : Value) (hc : w.cell? ⟨p, q, none⟩ = some x) (hx : IsConj w B t a b x) (ht : t = 2 ∨ t = 3) :
    Calls Try.prog 26 #[.pointer (some ⟨p, q, none⟩)] w fun e w' => e = .returned (.tuple #[.int .i64 0, .pointer none, .bool false]) ∧ w = w' := by
  rcases hx with ⟨rfl, _⟩ | ⟨rfl, _⟩ | ⟨rfl, k, k1, rfl, k2⟩ | ⟨rfl, k, u, k1, rfl, k2, _⟩ | ⟨rfl, _⟩
  · omega
  · omega
  · exact rule2 w p q _ hc
  · exact rule3 w p q _ hc
  · omega
theorem role_yes (w : World) (p q B : Nat) (a b : Int) (x : Value) (hc : w.cell? ⟨p, q, none⟩ = some x) (hp : p < w.heap.size) (hx : IsConj w B 2 a b x) :
    Calls Try.prog 27 #[.pointer (some ⟨p, q, none⟩)] w fun e w' => ∃ k, e = .returned (.tuple #[.agg #[.pointer (some ⟨k, 0, none⟩), .int .i64 a], .bool true]) ∧ Below w.heap.size w w' := by
  rcases hx with ⟨h, _⟩ | ⟨h, _⟩ | ⟨_, k, k1, rfl, k2⟩ | ⟨h, _⟩ | ⟨h, _⟩
  · omega
  · omega
  · refine (role2 w p q k a b hc hp (by rw [cell_of_row w k _ _ 58 (0, 0) k2]; rfl) (by rw [cell_of_row w k _ _ 58 (0, 0) k2]; rfl) (by rw [cell_of_row w k _ _ 58 (0, 0) k2]; rfl) (blk_lt k2)).mono ?_
    rintro e w' ⟨he, hb⟩
    exact ⟨k, he, hb⟩
  · omega
  · omega
theorem role_no (w : World) (p q B : Nat) (a b : Int) (x : Value) (hc : w.cell? ⟨p, q, none⟩ = some x) (hp : p < w.heap.size) (hx : IsConj w B 3 a b x) :
    Calls Try.prog 27 #[.pointer (some ⟨p, q, none⟩)] w fun e w' => e = .returned (.tuple #[.agg #[.pointer none, .int .i64 0], .bool false]) ∧ Below w.heap.size w w' := by
  rcases hx with ⟨h, _⟩ | ⟨h, _⟩ | ⟨h, _⟩ | ⟨_, k, u, k1, rfl, k2, _⟩ | ⟨h, _⟩
  · omega
  · omega
  · omega
  · exact role3 w p q _ hc hp
  · omega
end Go.Proofs.Qxb6614485a
