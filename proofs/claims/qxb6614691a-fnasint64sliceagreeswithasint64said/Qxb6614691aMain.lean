/- The walk of FnAsInt64SliceAgreesWithAsInt64 (3). -/
import Derived.Test.Qxb6614691aAs
import Derived.Deep.RegionHeld3
import Derived.Deep.QuietTactic
import Derived.BigQuiet
namespace Go.Proofs.Qxb6614691a
open Go.RowKit
/-- the box of the Value -/
def box (b n : Nat) : Obj := Obj.cells #[.int .i64 7, .int .u64 0, .string ⟨#[]⟩, .iface 22 (.slice (some ⟨b, 0, none⟩) n n)] 28
theorem cells4 {w1 w2 w3 w4 : World} {n b : Nat} {o : Obj} {f : Nat → Value} (h1 : ∀ j, j < n → w1.cell? ⟨b, j, none⟩ = some (f j)) (hb : b < w1.heap.size)
    (hb2 : Below w1.heap.size w1 w2) (hb3 : Below w2.heap.size w2 w3) (hb4 : Below (w3.alloc o).heap.size (w3.alloc o) w4) :
    ∀ j, j < n → w4.cell? ⟨b, j, none⟩ = some (f j) := by
  intro j hj
  have s2 := hb2.size
  have s3 := hb3.size
  rw [hb4.cell (p := ⟨b, j, none⟩) (by simp; omega)]
  refine (World.cell?_of_block (w := w3) (Below.heap_alloc w3 o _ (by simp; omega))).trans ?_
  rw [hb3.cell (p := ⟨b, j, none⟩) (by simp; omega), hb2.cell (p := ⟨b, j, none⟩) hb]
  exact h1 j hj
theorem box4 {w3 w4 : World} {b n : Nat} (hb4 : Below (w3.alloc (box b n)).heap.size (w3.alloc (box b n)) w4) :
    w4.cell? ⟨w3.heap.size, 0, none⟩ = some (.int .i64 7) ∧ w4.cell? ⟨w3.heap.size, 1, none⟩ = some (.int .u64 0) ∧
    w4.cell? ⟨w3.heap.size, 2, none⟩ = some (.string ⟨#[]⟩) ∧ w4.cell? ⟨w3.heap.size, 3, none⟩ = some (.iface 22 (.slice (some ⟨b, 0, none⟩) n n)) := by
  refine ⟨?_, ?_, ?_, ?_⟩ <;> (rw [hb4.cell (by simp)]; simp [box])
theorem below4 {w w1 w2 w3 w4 : World} {o : Obj} (hb1 : Below w.heap.size w w1) (hb2 : Below w1.heap.size w1 w2) (hb3 : Below w2.heap.size w2 w3) (hb4 : Below (w3.alloc o).heap.size (w3.alloc o) w4) :
    Below w.heap.size w w4 := by
  have s1 := hb1.size
  have s2 := hb2.size
  have s3 := hb3.size
  exact (((hb1.trans (hb2.mono s1)).trans (hb3.mono (by omega))).alloc (by omega) o).trans (hb4.mono (by simp; omega))
set_option maxHeartbeats 1000000 in
theorem law_some (zs : List Int) (x : Addr) (n c : Nat) (w : World) (hn : n ≤ 65536) (hl : zs.length = n) (hwf : ∀ z ∈ zs, (Lit.int .i64 z).wf = true)
    (hfirst : Calls Try.prog 6 #[.slice (some x) n c] w fun e w' => e = .returned (.slice (some ⟨w.heap.size, 0, none⟩) n n) ∧ Copied w w' n zs) :
    Calls Try.prog 3 #[.slice (some x) n c] w fun e w' => e = .returned (.bool true) ∧ Below w.heap.size w w' := by
  have HF : Hid (Calls Try.prog 6 #[.slice (some x) n c] w fun e w' => e = .returned (.slice (some ⟨w.heap.size, 0, none⟩) n n) ∧ Copied w w' n zs) := hfirst
  have HL : Hid (zs.length = n) := hl
  have HW : Hid (∀ z ∈ zs, (Lit.int .i64 z).wf = true) := hwf
  clear hfirst hl hwf
  have d1 : decide ((65536 : Int) < (n : Int)) = false := decide_eq_false (by omega)
  go_enter Try.func3, Try.ntmps3
  go_wp2_with (go_at_call 5; refine (bytes_any _ _ _ _ hn).mono ?_; rintro e w' ⟨rfl, rfl⟩)
  refine HF.out.mono ?_
  rintro e w1 ⟨rfl, hb1, hs1, hc1⟩
  have HC1 : Hid (∀ j, j < n → w1.cell? ⟨w.heap.size, j, none⟩ = some (.int .i64 (zs.getD j 0))) := hc1
  clear hc1
  go_wp2_with fail
  refine (clone_any zs w.heap.size 0 n n w1 hn (fun _ => hs1) (fun j hj => by simpa using HC1.out j hj)).mono ?_
  rintro e w2 ⟨rfl, hb2, hs2, hc2⟩
  have HC2 : Hid (∀ j, j < n → w2.cell? ⟨w1.heap.size, j, none⟩ = some (.int .i64 (zs.getD j 0))) := hc2
  clear hc2
  go_wp2_with fail
  refine (mk_slice _ _ _ _).mono ?_
  rintro e w3 ⟨rfl, hb3⟩
  have hs3 := hb3.size
  go_wp2_with fail
  refine (as_any zs w1.heap.size n n _ _ _ hn HL.out (by simp; omega) ?cells).mono ?_
  case cells => exact fun j hj => cells4 (f := fun j => .int .i64 (zs.getD j 0)) HC2.out hs2 (Below.refl _ _) hb3 (Below.refl _ _) j hj
  rintro e w4 ⟨v, rfl, hown, hb4⟩
  have HC4 : Hid (∀ j, j < n → w4.cell? ⟨w.heap.size, j, none⟩ = some (.int .i64 (zs.getD j 0))) := cells4 (f := fun j => .int .i64 (zs.getD j 0)) HC1.out hs1 hb2 hb3 hb4
  obtain ⟨x0, x1, x2, x3⟩ := box4 (b := w1.heap.size) (n := n) hb4
  have HB4 : Hid (Below w.heap.size w w4) := below4 hb1 hb2 hb3 hb4
  have hs4 := hb4.size
  have hs5 : w3.heap.size < w4.heap.size := by simp at hs4; omega
  have hs6 : w.heap.size < w4.heap.size := by omega
  generalize hb3s : w3.heap.size = B3 at *
  generalize w1.heap.size = B1 at *
  clear hb1 hb2 hb3 hb4 HC1 HC2 hs1 hs2 hs3 hs4 HF
  have hown0 := hown
  obtain ⟨hlen1, hv⟩ := hown
  rcases hv with ⟨rfl, hn0⟩ | ⟨g, cp, cur, rfl, hg, hcur, hcap, hmx, hcs, htk⟩
  · subst hn0
    go_wp2
    refine wp_loop_rounds 1 ?_
    rw [rounds_succ]
    go_wp2_with (go_at_call 10; refine (as_int_no _ _ _ _).mono ?_; rintro e w6 ⟨rfl, hb6⟩)
    go_ret
    exact ⟨rfl, HB4.out.trans (hb6.mono (by omega))⟩
  · have HG : Hid (∀ j, j < n → w4.cell? ⟨g, j, none⟩ = some (.int .i64 (zs.getD j 0))) := by
      intro j hj
      rw [hown0.cellAt j (by omega)]
      have := HL.out
      simp [show j < zs.length by omega]
    have hgl : g < w4.heap.size := (hown0.lt g (by simp [Value.ownBlock])).2
    clear hown0 hlen1 hg hcur hcap hmx hcs htk
    go_wp2
    go_loopw [5] (fun i wr => ∃ k : Nat, k ≤ n ∧ i = .int .i64 k ∧ Below w4.heap.size w4 wr) (fun i _ => n - (intOf i).toNat)
    case atStart => exact ⟨0, Nat.zero_le _, rfl, Below.refl _ _⟩
    case round =>
      obtain ⟨k, hk, rfl, hbel⟩ := hrel
      by_cases hlt : k < n
      · have hz1 : wr.cell? ⟨w.heap.size, k, none⟩ = some (.int .i64 (zs.getD k 0)) := (hbel.cell (p := ⟨w.heap.size, k, none⟩) hs6).trans (HC4.out k hlt)
        have hz2 : wr.cell? ⟨g, k, none⟩ = some (.int .i64 (zs.getD k 0)) := (hbel.cell (p := ⟨g, k, none⟩) hgl).trans (HG.out k hlt)
        have HZ : Hid (wrap64 (IntKind.u64.wrap (zs.getD k 0)) = zs.getD k 0) := by
          have := HL.out
          exact there_and_back _ (HW.out _ (by simp [show k < zs.length by omega]))
        generalize zs.getD k 0 = z at *
        have hsr := hbel.size
        have hki : (k : Int) < (n : Int) := by omega
        go_wp2
        go_quiet (fail)
        go_wp2
        go_region_held3 (fun w' => w'.cell? ⟨w.heap.size, k, none⟩ = some (.int .i64 z) ∧ w'.cell? ⟨g, k, none⟩ = some (.int .i64 z)) (go_keep)
          (first
            | (go_at_call 9; refine (mk_int _ _).mono ?_; rintro e w5 ⟨rfl, hb5⟩; have k51 := (hb5.cell (p := ⟨w.heap.size, k, none⟩) (by simp; omega)); have k52 := (hb5.cell (p := ⟨g, k, none⟩) (by simp; omega)); have hs5' := hb5.size)
            | (go_at_call 10; refine (as_int_yes _ _ _ _).mono ?_; rintro e w6 ⟨rfl, hb6⟩; have k61 := (hb6.cell (p := ⟨w.heap.size, k, none⟩) (by simp; simp at hs5'; omega)); have k62 := (hb6.cell (p := ⟨g, k, none⟩) (by simp; simp at hs5'; omega))))
        have hq := HZ.out
        go_wp2
        go_roundw
        case rel =>
          refine ⟨k + 1, by omega, by go_num, ?_⟩
          simp at hs5'
          exact (below_drewN hbel _).drew.trans ((hb5.mono (by simp; omega)).trans (hb6.mono (by omega)))
        case measure => simp [intOf]; omega
      · have y0 := (hbel.cell (p := ⟨B3, 0, none⟩) hs5).trans x0
        have y1 := (hbel.cell (p := ⟨B3, 1, none⟩) hs5).trans x1
        have y2 := (hbel.cell (p := ⟨B3, 2, none⟩) hs5).trans x2
        have y3 := (hbel.cell (p := ⟨B3, 3, none⟩) hs5).trans x3
        have hsr := hbel.size
        go_wp2_with (go_at_call 10; refine (as_int_no _ _ _ _).mono ?_; rintro e w6 ⟨rfl, hb6⟩)
        go_ret
        exact ⟨rfl, HB4.out.trans ((hbel.mono (by omega)).trans (hb6.mono (by omega)))⟩
set_option maxHeartbeats 1000000 in
theorem law_long (a0 : Option Addr) (len cap : Nat) (w : World) (hlen : 65536 < len) (hm : len ≤ maxLen) :
    Calls Try.prog 3 #[.slice a0 len cap] w fun e w' => e = .returned (.bool true) ∧ Below w.heap.size w w' := by
  unfold maxLen at hm
  by_cases h : 1048576 < len
  · go_enter Try.func3, Try.ntmps3
    go_wp2
    go_ret
    exact ⟨rfl, Below.refl _ _⟩
  · go_enter Try.func3, Try.ntmps3
    go_wp2
    go_ret
    exact ⟨rfl, Below.refl _ _⟩
theorem box_nil {w3 w4 : World} (hb4 : Below (w3.alloc (Obj.cells #[.int .i64 7, .int .u64 0, .string ⟨#[]⟩, .iface 22 (.slice none 0 0)] 28)).heap.size (w3.alloc (Obj.cells #[.int .i64 7, .int .u64 0, .string ⟨#[]⟩, .iface 22 (.slice none 0 0)] 28)) w4) :
    w4.cell? ⟨w3.heap.size, 0, none⟩ = some (.int .i64 7) ∧ w4.cell? ⟨w3.heap.size, 1, none⟩ = some (.int .u64 0) ∧
    w4.cell? ⟨w3.heap.size, 2, none⟩ = some (.string ⟨#[]⟩) ∧ w4.cell? ⟨w3.heap.size, 3, none⟩ = some (.iface 22 (.slice none 0 0)) := by
  refine ⟨?_, ?_, ?_, ?_⟩ <;> (rw [hb4.cell (by simp)]; simp)
set_option maxHeartbeats 1000000 in
theorem law_nil (w : World) :
    Calls Try.prog 3 #[.slice none 0 0] w fun e w' => e = .returned (.bool true) ∧ Below w.heap.size w w' := by
  go_enter Try.func3, Try.ntmps3
  go_wp2_with (first
    | (go_at_call 5; refine (bytes_any _ _ _ _ (by omega)).mono ?_; rintro e w' ⟨rfl, rfl⟩)
    | (go_at_call 6; refine (clone_nil _).mono ?_; rintro e w' ⟨rfl, rfl⟩))
  refine (mk_slice _ _ _ _).mono ?_
  rintro e w3 ⟨rfl, hb3⟩
  have hs3 := hb3.size
  go_wp2_with fail
  refine (as_nil _ _ _).mono ?_
  rintro e w4 ⟨v, rfl, hown, hb4⟩
  obtain ⟨x0, x1, x2, x3⟩ := box_nil hb4
  have HB4 : Hid (Below w.heap.size w w4) := (hb3.alloc (by omega) _).trans (hb4.mono (by simp; omega))
  have hs4 := hb4.size
  have hs5 : w.heap.size ≤ w4.heap.size := by simp at hs4; omega
  clear hb3 hb4 hs3 hs4
  obtain ⟨hlen1, hv⟩ := hown
  rcases hv with ⟨rfl, _⟩ | ⟨g, cp, cur, rfl, hg, hcur, hcap, hmx, hcs, htk⟩
  · clear hlen1
    go_wp2
    refine wp_loop_rounds 1 ?_
    rw [rounds_succ]
    go_wp2_with (go_at_call 10; refine (as_int_no _ _ _ _).mono ?_; rintro e w6 ⟨rfl, hb6⟩)
    go_ret
    exact ⟨rfl, HB4.out.trans (hb6.mono (by omega))⟩
  · clear hlen1 hg hcur hcap hmx hcs htk
    go_wp2
    refine wp_loop_rounds 1 ?_
    rw [rounds_succ]
    go_wp2_with (go_at_call 10; refine (as_int_no _ _ _ _).mono ?_; rintro e w6 ⟨rfl, hb6⟩)
    go_ret
    exact ⟨rfl, HB4.out.trans (hb6.mono (by omega))⟩
end Go.Proofs.Qxb6614691a
