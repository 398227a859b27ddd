/- The contract of zzModelTraceparent (5): the head. -/
import Derived.Test.Qxb6614691aFmtModA
import Derived.Test.Qxb6614691aFmtSet
namespace Go.Proofs.Qxb6614691aFmt
open Go.RowKit
theorem digit_same (c : Int) (w : World) : Calls Tryf.prog 8 #[.int .u8 c] w fun e w' => e = .returned (.int .i64 (hexv c)) ∧ w' = w :=
  (digit_any c w).mono fun _ _ h => ⟨h.1, h.2.symm⟩
theorem idx (s : ByteArray) (i : Nat) (j : Int) (hj : j = (i : Int)) (h : i < s.size) (w : World) : (Instr.index 9 (.string s) (.int .i64 j)).run Tryf.prog w = .ok (.int .u8 (byt s i)) w := by
  subst hj
  rw [run_index_string w 9 s .i64 (i : Int) Tryf.underlying9, dif_pos (by omega)]
  rw [← byt_eq s i h]; rfl
theorem drewN_blk (w : World) (n : Nat) : (w.drewN n).heap = w.heap := rfl
set_option maxHeartbeats 4000000 in
set_option maxRecDepth 100000 in
theorem model_ff (s : ByteArray) (w : World) (h55 : 55 ≤ s.size) (hlen : s.size ≤ 200000) (hok : ∀ j, j < 55 → okAt s j) (hff : pair s 0 = 255) :
    Calls Tryf.prog 5 #[.string s] w fun e w' => e = .returned (.tuple #[.bool false, .agg zero16, .agg zero8, .int .u8 0]) ∧ Below w.heap.size w w' := by
  have HOK : Hid (∀ j, j < 55 → okAt s j) := hok
  have hb55 : ((s.size : Int) < 55) = False := by simp; omega
  clear hok
  have hq255 : (pair s 0 == 255) = true := by simpa using hff
  clear hff
  go_enter Tryf.func5, Tryf.ntmps5
  go_wp2
  go_loop [8] (fun i => ∃ k : Nat, k ≤ 55 ∧ i = .int .i64 k) (fun i => 55 - (intOf i).toNat)
  case atStart => exact ⟨0, Nat.zero_le _, rfl⟩
  case round =>
    obtain ⟨k, hk, rfl⟩ := hrel
    by_cases hlt : k < 55
    · have hokk := HOK.out k hlt
      by_cases hs : k = 2 ∨ k = 35 ∨ k = 52
      · have hb45 : byt s k = 45 := hokk.1 hs
        have hq : ((s[k].toNat : Int) != 45) = false := by rw [byt_eq s k (by omega)]; simp [hb45]
        clear hokk hb45
        rcases hs with rfl | rfl | rfl
        all_goals
          go_wp2
          go_round
          case rel => exact ⟨_ + 1, hlt, by go_num⟩
          case measure => simp [intOf]
      · have hg : 0 ≤ hexv (s[k].toNat : Int) := by rw [byt_eq s k (by omega)]; exact hokk.2 hs
        obtain ⟨q2, q35, q52⟩ := okAt_split k hs
        clear hokk hs
        go_wp2_with (go_at_call 8; refine (digit_any _ _).mono ?_; rintro e w' ⟨rfl, rfl⟩)
        go_round
        case rel => exact ⟨k + 1, hlt, by go_num⟩
        case measure => simp [intOf]; omega
    · have hkm : k = 55 := by omega
      subst hkm
      go_wp2
      have hx0 := idx s 0 0 rfl (by omega)
      have hx1 := idx s 1 1 rfl (by omega)
      have hr0 := hexv_range (byt s 0)
      have hr1 := hexv_range (byt s 1)
      go_quiet ((go_at_call 8; exact Calls.quiet_of_same (digit_same _ _)))
      have hver : hexv (byt s 0) * 16 + hexv (byt s 1) = pair s 0 := rfl
      clear hx0 hx1 hr0 hr1
      go_wp2
      go_region
      go_wp2
      obtain ⟨b1, b2, b3⟩ := world4_blk w
      obtain ⟨c1, c2, c3⟩ := left_facts (W := (world4 w).drewN (nq + 1)) (l1 := [.int .u8 0, .int .u8 0, .int .u8 0, .int .u8 0, .int .u8 0, .int .u8 0, .int .u8 0, .int .u8 0, .int .u8 0, .int .u8 0, .int .u8 0, .int .u8 0, .int .u8 0, .int .u8 0, .int .u8 0, .int .u8 0]) (l2 := [.int .u8 0, .int .u8 0, .int .u8 0, .int .u8 0, .int .u8 0, .int .u8 0, .int .u8 0, .int .u8 0]) b1 b2 (below_drewN b3 _) rfl rfl
      exact bodyPost_ret (v := .tuple #[.bool false, .agg zero16, .agg zero8, .int .u8 0]) (results_model _ (leftWorld ((world4 w).drewN (nq + 1)) w.heap.size [.int .u8 0, .int .u8 0, .int .u8 0, .int .u8 0, .int .u8 0, .int .u8 0, .int .u8 0, .int .u8 0, .int .u8 0, .int .u8 0, .int .u8 0, .int .u8 0, .int .u8 0, .int .u8 0, .int .u8 0, .int .u8 0] [.int .u8 0, .int .u8 0, .int .u8 0, .int .u8 0, .int .u8 0, .int .u8 0, .int .u8 0, .int .u8 0]) w.heap.size (w.heap.size + 1) zero16 zero8 _ _ rfl rfl rfl rfl c1 rfl c2 rfl) rfl ⟨rfl, c3⟩
set_option maxHeartbeats 4000000 in
set_option maxRecDepth 100000 in
theorem model_zero (s : ByteArray) (w : World) (h55 : 55 ≤ s.size) (hlen : s.size ≤ 200000) (hok : ∀ j, j < 55 → okAt s j) (hff : pair s 0 ≠ 255) (hz : pair s 0 = 0) (hn : s.size ≠ 55) :
    Calls Tryf.prog 5 #[.string s] w fun e w' => e = .returned (.tuple #[.bool false, .agg zero16, .agg zero8, .int .u8 0]) ∧ Below w.heap.size w w' := by
  have HOK : Hid (∀ j, j < 55 → okAt s j) := hok
  have hb55 : ((s.size : Int) < 55) = False := by simp; omega
  clear hok
  have hq255 : (pair s 0 == 255) = false := by simpa using hff
  have hq0 : (pair s 0 == 0) = true := by simpa using hz
  have hqn : ((s.size : Int) != 55) = true := by simp; omega
  clear hff hz hn
  go_enter Tryf.func5, Tryf.ntmps5
  go_wp2
  go_loop [8] (fun i => ∃ k : Nat, k ≤ 55 ∧ i = .int .i64 k) (fun i => 55 - (intOf i).toNat)
  case atStart => exact ⟨0, Nat.zero_le _, rfl⟩
  case round =>
    obtain ⟨k, hk, rfl⟩ := hrel
    by_cases hlt : k < 55
    · have hokk := HOK.out k hlt
      by_cases hs : k = 2 ∨ k = 35 ∨ k = 52
      · have hb45 : byt s k = 45 := hokk.1 hs
        have hq : ((s[k].toNat : Int) != 45) = false := by rw [byt_eq s k (by omega)]; simp [hb45]
        clear hokk hb45
        rcases hs with rfl | rfl | rfl
        all_goals
          go_wp2
          go_round
          case rel => exact ⟨_ + 1, hlt, by go_num⟩
          case measure => simp [intOf]
      · have hg : 0 ≤ hexv (s[k].toNat : Int) := by rw [byt_eq s k (by omega)]; exact hokk.2 hs
        obtain ⟨q2, q35, q52⟩ := okAt_split k hs
        clear hokk hs
        go_wp2_with (go_at_call 8; refine (digit_any _ _).mono ?_; rintro e w' ⟨rfl, rfl⟩)
        go_round
        case rel => exact ⟨k + 1, hlt, by go_num⟩
        case measure => simp [intOf]; omega
    · have hkm : k = 55 := by omega
      subst hkm
      go_wp2
      have hx0 := idx s 0 0 rfl (by omega)
      have hx1 := idx s 1 1 rfl (by omega)
      have hr0 := hexv_range (byt s 0)
      have hr1 := hexv_range (byt s 1)
      go_quiet ((go_at_call 8; exact Calls.quiet_of_same (digit_same _ _)))
      have hver : hexv (byt s 0) * 16 + hexv (byt s 1) = pair s 0 := rfl
      clear hx0 hx1 hr0 hr1
      go_wp2
      go_region
      go_wp2
      obtain ⟨b1, b2, b3⟩ := world4_blk w
      obtain ⟨c1, c2, c3⟩ := left_facts (W := (world4 w).drewN (nq + 1)) (l1 := [.int .u8 0, .int .u8 0, .int .u8 0, .int .u8 0, .int .u8 0, .int .u8 0, .int .u8 0, .int .u8 0, .int .u8 0, .int .u8 0, .int .u8 0, .int .u8 0, .int .u8 0, .int .u8 0, .int .u8 0, .int .u8 0]) (l2 := [.int .u8 0, .int .u8 0, .int .u8 0, .int .u8 0, .int .u8 0, .int .u8 0, .int .u8 0, .int .u8 0]) b1 b2 (below_drewN b3 _) rfl rfl
      exact bodyPost_ret (v := .tuple #[.bool false, .agg zero16, .agg zero8, .int .u8 0]) (results_model _ (leftWorld ((world4 w).drewN (nq + 1)) w.heap.size [.int .u8 0, .int .u8 0, .int .u8 0, .int .u8 0, .int .u8 0, .int .u8 0, .int .u8 0, .int .u8 0, .int .u8 0, .int .u8 0, .int .u8 0, .int .u8 0, .int .u8 0, .int .u8 0, .int .u8 0, .int .u8 0] [.int .u8 0, .int .u8 0, .int .u8 0, .int .u8 0, .int .u8 0, .int .u8 0, .int .u8 0, .int .u8 0]) w.heap.size (w.heap.size + 1) zero16 zero8 _ _ rfl rfl rfl rfl c1 rfl c2 rfl) rfl ⟨rfl, c3⟩
set_option maxHeartbeats 4000000 in
set_option maxRecDepth 100000 in
theorem model_tail (s : ByteArray) (w : World) (h55 : 55 ≤ s.size) (hlen : s.size ≤ 200000) (hok : ∀ j, j < 55 → okAt s j) (hff : pair s 0 ≠ 255) (hz : pair s 0 ≠ 0) (hl : 55 < s.size) (ht : byt s 55 ≠ 45) :
    Calls Tryf.prog 5 #[.string s] w fun e w' => e = .returned (.tuple #[.bool false, .agg zero16, .agg zero8, .int .u8 0]) ∧ Below w.heap.size w w' := by
  have HOK : Hid (∀ j, j < 55 → okAt s j) := hok
  have hb55 : ((s.size : Int) < 55) = False := by simp; omega
  clear hok
  have hq255 : (pair s 0 == 255) = false := by simpa using hff
  have hq0 : (pair s 0 == 0) = false := by simpa using hz
  have HT45 : Hid ((byt s 55 != 45) = true) := by unfold Hid; simpa using ht
  clear hff hz ht
  go_enter Tryf.func5, Tryf.ntmps5
  go_wp2
  go_loop [8] (fun i => ∃ k : Nat, k ≤ 55 ∧ i = .int .i64 k) (fun i => 55 - (intOf i).toNat)
  case atStart => exact ⟨0, Nat.zero_le _, rfl⟩
  case round =>
    obtain ⟨k, hk, rfl⟩ := hrel
    by_cases hlt : k < 55
    · have hokk := HOK.out k hlt
      by_cases hs : k = 2 ∨ k = 35 ∨ k = 52
      · have hb45 : byt s k = 45 := hokk.1 hs
        have hq : ((s[k].toNat : Int) != 45) = false := by rw [byt_eq s k (by omega)]; simp [hb45]
        clear hokk hb45
        rcases hs with rfl | rfl | rfl
        all_goals
          go_wp2
          go_round
          case rel => exact ⟨_ + 1, hlt, by go_num⟩
          case measure => simp [intOf]
      · have hg : 0 ≤ hexv (s[k].toNat : Int) := by rw [byt_eq s k (by omega)]; exact hokk.2 hs
        obtain ⟨q2, q35, q52⟩ := okAt_split k hs
        clear hokk hs
        go_wp2_with (go_at_call 8; refine (digit_any _ _).mono ?_; rintro e w' ⟨rfl, rfl⟩)
        go_round
        case rel => exact ⟨k + 1, hlt, by go_num⟩
        case measure => simp [intOf]; omega
    · have hkm : k = 55 := by omega
      subst hkm
      go_wp2
      have hx0 := idx s 0 0 rfl (by omega)
      have hx1 := idx s 1 1 rfl (by omega)
      have hr0 := hexv_range (byt s 0)
      have hr1 := hexv_range (byt s 1)
      go_quiet ((go_at_call 8; exact Calls.quiet_of_same (digit_same _ _)))
      have hver : hexv (byt s 0) * 16 + hexv (byt s 1) = pair s 0 := rfl
      clear hx0 hx1 hr0 hr1
      have hx55 := idx s 55 55 rfl hl
      have hq45 := HT45.out
      go_wp2
      go_region
      go_wp2
      obtain ⟨b1, b2, b3⟩ := world4_blk w
      obtain ⟨c1, c2, c3⟩ := left_facts (W := (world4 w).drewN (nq + 1)) (l1 := [.int .u8 0, .int .u8 0, .int .u8 0, .int .u8 0, .int .u8 0, .int .u8 0, .int .u8 0, .int .u8 0, .int .u8 0, .int .u8 0, .int .u8 0, .int .u8 0, .int .u8 0, .int .u8 0, .int .u8 0, .int .u8 0]) (l2 := [.int .u8 0, .int .u8 0, .int .u8 0, .int .u8 0, .int .u8 0, .int .u8 0, .int .u8 0, .int .u8 0]) b1 b2 (below_drewN b3 _) rfl rfl
      exact bodyPost_ret (v := .tuple #[.bool false, .agg zero16, .agg zero8, .int .u8 0]) (results_model _ (leftWorld ((world4 w).drewN (nq + 1)) w.heap.size [.int .u8 0, .int .u8 0, .int .u8 0, .int .u8 0, .int .u8 0, .int .u8 0, .int .u8 0, .int .u8 0, .int .u8 0, .int .u8 0, .int .u8 0, .int .u8 0, .int .u8 0, .int .u8 0, .int .u8 0, .int .u8 0] [.int .u8 0, .int .u8 0, .int .u8 0, .int .u8 0, .int .u8 0, .int .u8 0, .int .u8 0, .int .u8 0]) w.heap.size (w.heap.size + 1) zero16 zero8 _ _ rfl rfl rfl rfl c1 rfl c2 rfl) rfl ⟨rfl, c3⟩
end Go.Proofs.Qxb6614691aFmt
