/- The contracts of zzBytes (5) and zzCloneI64 (6). -/
import Derived.Test.Qxb6614691aRows
import Derived.WalkKit
import Derived.WalkLawsBesides
import Derived.WalkSpells
import Derived.Outline
namespace Go.Proofs.Qxb6614691a
open Go.RowKit
theorem ret_int {k : IntKind} {a b : Int} (h : a = b) : Ending.returned (.int k a) = .returned (.int k b) := by rw [h]
theorem ret_bool {a b : Bool} (h : a = b) : Ending.returned (.bool a) = .returned (.bool b) := by rw [h]
theorem Try.info2 : (Try.prog.info? 2).map (fun i => (i.zero, i.size, i.bytes)) = some (some (.int .i64 0), 1, 8) := by kernel_rfl
set_option maxHeartbeats 400000 in
theorem bytes_any (a0 : Option Addr) (len cap : Nat) (w : World) (hlen : len ≤ 65536) :
    Calls Try.prog 5 #[.slice a0 len cap] w fun e w' => e = .returned (.bool true) ∧ w = w' := by
  go_enter Try.func5, Try.ntmps5
  go_wp2
  go_ret
  exact ⟨rfl, rfl⟩
/-- what zzCloneI64 leaves: a row of its own at the first new block -/
def Copied (w w' : World) (n : Nat) (zs : List Int) : Prop :=
  Below w.heap.size w w' ∧ w.heap.size < w'.heap.size ∧ ∀ j, j < n → w'.cell? ⟨w.heap.size, j, none⟩ = some (.int .i64 (zs.getD j 0))
theorem copied_of {w wr : World} {n : Nat} {zs : List Int} {xs : List Value} (hb : Below w.heap.size w wr)
    (ho : wr.ownsRow w.heap.size 2 1 (.slice (some ⟨w.heap.size, 0, none⟩) n n) n xs)
    (hx : ∀ j, j < n → xs[j]? = some (.int .i64 (zs.getD j 0))) : Copied w wr n zs := by
  refine ⟨hb, (ho.lt w.heap.size (by simp [Value.ownBlock])).2, fun j hj => ?_⟩
  rw [ho.cellAt j (by omega)]; exact hx j hj
set_option maxHeartbeats 400000 in
theorem clone_nil (w : World) :
    Calls Try.prog 6 #[.slice none 0 0] w fun e w' => e = .returned (.slice none 0 0) ∧ w = w' := by
  have kc := fun (w : World) => Lib.run_eql_slice_nil (P := Try.prog) w 22 2 none 0 0 0 0 Try.underlying22
  go_enter Try.func6, Try.ntmps6
  go_wp2
  go_ret
  exact ⟨rfl, rfl⟩
set_option maxHeartbeats 1000000 in
theorem clone_empty (x : Addr) (c : Nat) (w : World) (zs : List Int) :
    Calls Try.prog 6 #[.slice (some x) 0 c] w fun e w' => e = .returned (.slice (some ⟨w.heap.size, 0, none⟩) 0 0) ∧ Copied w w' 0 zs := by
  have kc := fun (w : World) => Lib.run_eql_slice_nil (P := Try.prog) w 22 2 (some x) 0 c 0 0 Try.underlying22
  obtain ⟨i0, hi, hz0, hz1, hz2⟩ := info_parts Try.info2
  go_enter Try.func6, Try.ntmps6
  go_wp2_with (at_make; refine wpList_make_full _ rfl _ _ 22 rfl w.heap.size 2 i0 (.int .i64 0) 1 Try.underlying22 hi hz0 hz1 _ _ _ _ 0 rfl rfl (by rfl) (by rfl) (by omega) (by omega) (by omega) ?_; intro w1 hown hgrow)
  refine wp_loop_rounds 1 ?_
  rw [rounds_succ]
  go_wp2
  go_ret
  exact ⟨rfl, copied_of ((Below.refl _ _).grown hgrow (Nat.le_refl _) (fun k h => by cases h)) hown (fun j hj => by omega)⟩
set_option maxHeartbeats 1000000 in
theorem clone_any (zs : List Int) (b off n c : Nat) (w : World) (hn : n ≤ 65536) (hb : 0 < n → b < w.heap.size)
    (hc : ∀ j, j < n → w.cell? ⟨b, off + j, none⟩ = some (.int .i64 (zs.getD j 0))) :
    Calls Try.prog 6 #[.slice (some ⟨b, off, none⟩) n c] w fun e w' => e = .returned (.slice (some ⟨w.heap.size, 0, none⟩) n n) ∧ Copied w w' n zs := by
  have kc := fun (w : World) => Lib.run_eql_slice_nil (P := Try.prog) w 22 2 (some ⟨b, off, none⟩) n c 0 0 Try.underlying22
  have HC : Hid (∀ j, j < n → w.cell? ⟨b, off + j, none⟩ = some (.int .i64 (zs.getD j 0))) := hc
  clear hc
  obtain ⟨i0, hi, hz0, hz1, hz2⟩ := info_parts Try.info2
  go_enter Try.func6, Try.ntmps6
  go_wp2_with (at_make; refine wpList_make_full _ rfl _ _ 22 rfl w.heap.size 2 i0 (.int .i64 0) 1 Try.underlying22 hi hz0 hz1 _ _ _ _ n rfl rfl (by rfl) (by rfl) (by rw [hz2]; omega) (by unfold maxLen; omega) (by omega) ?_; intro w1 hown hgrow)
  clear kc
  go_loopw [4] (fun i wr => ∃ (k : Nat) (xs : List Value), k ≤ n ∧ i = .int .i64 k ∧ wr.ownsRow w.heap.size 2 1 (.slice (some ⟨w.heap.size, 0, none⟩) n n) n xs ∧
      Hid (∀ j, j < k → xs[j]? = some (.int .i64 (zs.getD j 0))) ∧ Below w.heap.size w wr)
    (fun i _ => n - (intOf i).toNat)
  case atStart => exact ⟨0, _, Nat.zero_le _, rfl, hown, fun j hj => by omega, (Below.refl _ _).grown hgrow (Nat.le_refl _) (fun k h => by cases h)⟩
  case round =>
    obtain ⟨k, xs, hk, rfl, ho, HX, hbel⟩ := hrel
    by_cases hlt : k < n
    · have hcx : wr.cell? ⟨b, off + k, none⟩ = some (.int .i64 (zs.getD k 0)) := (hbel.cell (by exact hb (by omega))).trans (HC.out k hlt)
      have hxl : xs.length = n := by have := ho.1; omega
      have hcd : wr.cell? ⟨w.heap.size, k, none⟩ = xs[k]? := ho.cellAt k (by omega)
      have hcd' : ∃ u, wr.cell? ⟨w.heap.size, k, none⟩ = some u := ⟨xs[k]'(by omega), by rw [hcd]; simp [hxl, hlt]⟩
      obtain ⟨u, hu⟩ := hcd'
      have hfr := ho.frozenAt k
      generalize hzz : zs.getD k 0 = z at *
      have HZ : Hid (zs.getD k 0 = z) := hzz
      clear hzz
      have HO : Hid (wr.ownsRow w.heap.size 2 1 (.slice (some ⟨w.heap.size, 0, none⟩) n n) n xs) := ho
      have HL : Hid (xs.length = n) := hxl
      clear ho hcd hxl hown hgrow
      go_wp2
      go_roundw
      case rel =>
        refine ⟨k + 1, xs.set k (.int .i64 z), by omega, by go_num, (HO.out.stored k _).1, ?_, hbel.setCell (Nat.le_refl _) _⟩
        intro j hj
        rw [List.getElem?_set]
        split
        · rename_i e
          subst e
          rw [HZ.out, HL.out]; simp [hlt]
        · exact HX.out j (by omega)
      case measure => simp [intOf]; omega
    · go_wp2
      go_ret
      have : k = n := by omega
      subst this
      exact ⟨rfl, copied_of hbel ho HX⟩
end Go.Proofs.Qxb6614691a
