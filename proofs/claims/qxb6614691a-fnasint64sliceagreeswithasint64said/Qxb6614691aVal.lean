/- The contracts of slices.Clone (12), ZZValueInt64Slice (7), AsInt64Slice (8), ZZValueInt64 (9), AsInt64 (10). -/
import Derived.Test.Qxb6614691aClone
import Derived.Laws.ResultCell
import Derived.OpenShut
namespace Go.Proofs.Qxb6614691a
open Go.RowKit
/-- what a copy out of slices.Clone is: a row of the call's own -/
def Cloned (w w' : World) (v : Value) (n : Nat) (zs : List Int) : Prop :=
  w'.ownsRow w.heap.size 2 1 v n (zs.map (Value.int .i64)) ∧ Below w.heap.size w w'
set_option maxHeartbeats 400000 in
theorem sclone_nil (w : World) :
    Calls Try.prog 12 #[.slice none 0 0] w fun e w' => ∃ v, e = .returned v ∧ Cloned w w' v 0 [] := by
  have kc := fun (w : World) => Lib.run_eql_slice_nil (P := Try.prog) w 22 2 none 0 0 0 0 Try.underlying22
  go_enter Try.func12, Try.ntmps12
  go_wp2
  go_ret
  exact ⟨_, rfl, World.ownsRow_nil _ _ _ _, Below.refl _ _⟩
theorem cells_ahead {zs : List Int} {x : Addr} {n : Nat} {w : World} {o : Obj} (hc : ∀ j, j < n → w.cell? (x.add j) = some (.int .i64 (zs.getD j 0)))
    (hl : zs.length = n) (hb : 0 < n → x.block < w.heap.size) :
    ∀ (j : Nat) (u : Value), (zs.map (Value.int .i64))[j]? = some u → (w.alloc o).cell? (x.add j) = some u := by
  intro j u hu
  have hj : j < n := by
    have := (List.getElem?_eq_some_iff.1 hu).1; simp at this; omega
  have hadd : (x.add j).block = x.block := by unfold Addr.add; split <;> rfl
  refine (World.cell?_of_block (w := w) (Below.heap_alloc w o _ (by rw [hadd]; exact hb (by omega)))).trans ?_
  rw [hc j hj]
  simp [show j < zs.length by omega] at hu
  simp [← hu, show j < zs.length by omega]
set_option maxHeartbeats 1000000 in
theorem sclone_any (zs : List Int) (x : Addr) (n c : Nat) (w : World) (hn : n ≤ 65536) (hl : zs.length = n)
    (hc : ∀ j, j < n → w.cell? (x.add j) = some (.int .i64 (zs.getD j 0))) (hb : 0 < n → x.block < w.heap.size) :
    Calls Try.prog 12 #[.slice (some x) n c] w fun e w' => ∃ v, e = .returned v ∧ Cloned w w' v n zs := by
  have kc := fun (w : World) => Lib.run_eql_slice_nil (P := Try.prog) w 22 2 (some x) n c 0 0 Try.underlying22
  have HC : Hid (∀ j, j < n → w.cell? (x.add j) = some (.int .i64 (zs.getD j 0))) := hc
  have HL : Hid (zs.length = n) := hl
  clear hc hl
  obtain ⟨i0, hi, hz0, hz1, hz2⟩ := info_parts Try.info2
  go_enter Try.func12, Try.ntmps12
  go_wp2_with (at_builtin; refine wpList_append_own _ rfl _ _ 22 rfl w.heap.size 2 i0 (.int .i64 0) 1 8 Try.underlying22 hi hz0 hz1 hz2 rfl (by decide) _ _ _ rfl (World.ownsRow_lit (e := 2) (size := 1) w #[] 0 (Nat.le_refl _) (Nat.zero_le _) rfl) x n c (zs.map (Value.int .i64)) rfl ?c0 ?c1 ?c2 ?c3 ?c4 ?c5 ?_)
  case c0 => have := HL.out; simp; omega
  case c1 => exact cells_ahead HC.out HL.out hb
  case c2 => exact ints_oneCell _ _
  case c3 => unfold maxLen; omega
  case c4 => omega
  case c5 => simp
  intro v' w1 hown hgrow _
  go_wp2
  go_ret
  refine ⟨_, rfl, by simpa using hown, ?_⟩
  exact ((Below.refl _ _).alloc (Nat.le_refl _) _).grown hgrow (by simp) (fun k h => by simp [Value.ownBlock] at h; omega)
set_option maxHeartbeats 400000 in
theorem mk_slice (a : Option Addr) (n c : Nat) (w : World) :
    Calls Try.prog 7 #[.slice a n c] w fun e w' => e = .returned (.agg #[.int .i64 7, .int .u64 0, .string ⟨#[]⟩, .iface 22 (.slice a n c)]) ∧ Below w.heap.size w w' := by
  go_enter Try.func7, Try.ntmps7
  go_wp2
  refine bodyPost_ret (v := .agg #[.int .i64 7, .int .u64 0, .string ⟨#[]⟩, .iface 22 (.slice a n c)]) (by simp [results, Try.results7, go_sem]) rfl ⟨rfl, ?_⟩
  exact (Below.refl _ _).alloc (Nat.le_refl _) _
set_option maxHeartbeats 400000 in
theorem mk_int (x : Int) (w : World) :
    Calls Try.prog 9 #[.int .i64 x] w fun e w' => e = .returned (.agg #[.int .i64 3, .int .u64 (IntKind.u64.wrap x), .string ⟨#[]⟩, .nilIface]) ∧ Below w.heap.size w w' := by
  go_enter Try.func9, Try.ntmps9
  go_wp2
  refine bodyPost_ret (v := .agg #[.int .i64 3, .int .u64 (IntKind.u64.wrap x), .string ⟨#[]⟩, .nilIface]) (by simp [results, Try.results9, go_sem]) rfl ⟨rfl, ?_⟩
  exact (Below.refl _ _).alloc (Nat.le_refl _) _
set_option maxHeartbeats 400000 in
theorem as_int_yes (x : Int) (s i : Value) (w : World) :
    Calls Try.prog 10 #[.agg #[.int .i64 3, .int .u64 x, s, i]] w fun e w' => e = .returned (.int .i64 (wrap64 x)) ∧ Below w.heap.size w w' := by
  go_enter Try.func10, Try.ntmps10
  go_wp2
  go_ret
  exact ⟨rfl, (Below.refl _ _).alloc (Nat.le_refl _) _⟩
set_option maxHeartbeats 400000 in
theorem as_int_no (s i x : Value) (w : World) :
    Calls Try.prog 10 #[.agg #[.int .i64 7, x, s, i]] w fun e w' => e = .returned (.int .i64 0) ∧ Below w.heap.size w w' := by
  go_enter Try.func10, Try.ntmps10
  go_wp2
  go_ret
  exact ⟨rfl, (Below.refl _ _).alloc (Nat.le_refl _) _⟩
theorem there_and_back (x : Int) (h : (Lit.int .i64 x).wf = true) : wrap64 (IntKind.u64.wrap x) = x := by
  have h' : -9223372036854775808 ≤ x ∧ x ≤ 9223372036854775807 := by
    exact Go.bounds_i64 h
  simp only [IntKind.wrap, IntKind.bits, IntKind.signed, wrap64]
  simp
  omega
end Go.Proofs.Qxb6614691a
