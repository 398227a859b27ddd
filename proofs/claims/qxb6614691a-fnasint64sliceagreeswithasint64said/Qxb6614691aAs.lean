/- The contract of AsInt64Slice (8). -/
import Derived.Test.Qxb6614691aVal
namespace Go.Proofs.Qxb6614691a
open Go.RowKit
theorem cloned_box {w w' : World} {o : Obj} {v : Value} {n : Nat} {zs : List Int} (h : Cloned (w.alloc o) w' v n zs) :
    w'.ownsRow (w.heap.size + 1) 2 1 v n (zs.map (Value.int .i64)) ∧ Below w.heap.size w w' := by
  refine ⟨by simpa using h.1, ?_⟩
  exact ((Below.refl _ _).alloc (Nat.le_refl _) _).trans (h.2.mono (by simp))
theorem assert_slice (a : Option Addr) (n c : Nat) (w : World) : (Instr.typeAssert (.iface 22 (.slice a n c)) 20 22 true).run Try.prog w = .ok (.tuple #[.slice a n c, .bool true]) w := by kernel_rfl
set_option maxHeartbeats 400000 in
theorem as_nil (x s : Value) (w : World) :
    Calls Try.prog 8 #[.agg #[.int .i64 7, x, s, .iface 22 (.slice none 0 0)]] w fun e w' => ∃ v, e = .returned v ∧ w'.ownsRow (w.heap.size + 1) 2 1 v 0 [] ∧ Below w.heap.size w w' := by
  have ha := assert_slice
  go_enter Try.func8, Try.ntmps8
  go_wp2_with (go_at_call 12; refine (sclone_nil _).mono ?_; rintro e w' ⟨v, rfl, hcl⟩)
  go_ret
  exact ⟨_, rfl, cloned_box hcl⟩
set_option maxHeartbeats 1000000 in
theorem as_any (zs : List Int) (b n c : Nat) (x s : Value) (w : World) (hn : n ≤ 65536) (hl : zs.length = n) (hb : b < w.heap.size)
    (hc : ∀ j, j < n → w.cell? ⟨b, j, none⟩ = some (.int .i64 (zs.getD j 0))) :
    Calls Try.prog 8 #[.agg #[.int .i64 7, x, s, .iface 22 (.slice (some ⟨b, 0, none⟩) n c)]] w fun e w' => ∃ v, e = .returned v ∧ w'.ownsRow (w.heap.size + 1) 2 1 v n (zs.map (Value.int .i64)) ∧ Below w.heap.size w w' := by
  have HC : Hid (∀ (o : Obj) j, j < n → (w.alloc o).cell? ((⟨b, 0, none⟩ : Addr).add j) = some (.int .i64 (zs.getD j 0))) := by
    intro o j hj
    have hadd : (⟨b, 0, none⟩ : Addr).add j = ⟨b, j, none⟩ := by
      simp only [Addr.add, Nat.zero_add]; split <;> simp_all
    rw [hadd]
    refine (World.cell?_of_block (w := w) (Below.heap_alloc w o _ hb)).trans ?_
    exact hc j hj
  have HL : Hid (zs.length = n) := hl
  clear hc hl
  have ha := assert_slice
  go_enter Try.func8, Try.ntmps8
  go_wp2_with (go_at_call 12; refine (sclone_any zs _ _ _ _ hn HL.out (HC.out _) (fun _ => by simp; omega)).mono ?_; rintro e w' ⟨v, rfl, hcl⟩)
  go_ret
  exact ⟨_, rfl, cloned_box hcl⟩
end Go.Proofs.Qxb6614691a
