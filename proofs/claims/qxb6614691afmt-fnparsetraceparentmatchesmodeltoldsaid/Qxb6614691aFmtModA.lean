/- The contract of zzModelTraceparent (5): the first loop finds a wrong character. -/
import Derived.Test.Qxb6614691aFmtModel
namespace Go.Proofs.Qxb6614691aFmt
open Go.RowKit
theorem okAt_split (k : Nat) (h : ¬ (k = 2 ∨ k = 35 ∨ k = 52)) : (((k : Int) == 2) = false) ∧ (((k : Int) == 35) = false) ∧ (((k : Int) == 52) = false) := by
  simp; omega
set_option maxHeartbeats 4000000 in
theorem model_loop (s : ByteArray) (w : World) (h55 : 55 ≤ s.size) (hlen : s.size ≤ 200000) (m : Nat) (hm : m < 55) (hbad : ¬ okAt s m) (hok : ∀ j, j < m → okAt s j) :
    Calls Tryf.prog 5 #[.string s] w fun e w' => e = .returned (.tuple #[.bool false, .agg zero16, .agg zero8, .int .u8 0]) ∧ Below w.heap.size w w' := by
  have HOK : Hid (∀ j, j < m → okAt s j) := hok
  have HBAD : Hid (¬ okAt s m) := hbad
  have hb55 : ((s.size : Int) < 55) = False := by simp; omega
  clear hok hbad
  go_enter Tryf.func5, Tryf.ntmps5
  go_wp2
  go_loop [8] (fun i => ∃ k : Nat, k ≤ m ∧ i = .int .i64 k) (fun i => 55 - (intOf i).toNat)
  case atStart => exact ⟨0, Nat.zero_le _, rfl⟩
  case round =>
    obtain ⟨k, hk, rfl⟩ := hrel
    by_cases hlt : k < m
    · have hokk := HOK.out k hlt
      by_cases hs : k = 2 ∨ k = 35 ∨ k = 52
      · have hb45 : byt s k = 45 := hokk.1 hs
        have hq : ((s[k].toNat : Int) != 45) = false := by rw [byt_eq s k (by omega)]; simp [hb45]
        clear hokk hb45
        rcases hs with rfl | rfl | rfl
        all_goals
          go_wp2
          go_round
          case rel => exact ⟨_ + 1, hlt, by go_num⟩
          case measure => simp [intOf]
      · have hg : 0 ≤ hexv (s[k].toNat : Int) := by rw [byt_eq s k (by omega)]; exact hokk.2 hs
        obtain ⟨q2, q35, q52⟩ := okAt_split k hs
        clear hokk hs
        go_wp2_with (go_at_call 8; refine (digit_any _ _).mono ?_; rintro e w' ⟨rfl, rfl⟩)
        go_round
        case rel => exact ⟨k + 1, hlt, by go_num⟩
        case measure => simp [intOf]; omega
    · have hkm : k = m := by omega
      subst hkm
      by_cases hs : k = 2 ∨ k = 35 ∨ k = 52
      · have hb45 : byt s k ≠ 45 := fun h => HBAD.out ⟨fun _ => h, fun h' => absurd hs h'⟩
        have hq : ((s[k].toNat : Int) != 45) = true := by rw [byt_eq s k (by omega)]; simpa using hb45
        clear hb45
        rcases hs with rfl | rfl | rfl
        all_goals
          go_wp2
          go_region
          go_wp2
          obtain ⟨b1, b2, b3⟩ := world4_blk w
          exact bodyPost_ret (v := .tuple #[.bool false, .agg zero16, .agg zero8, .int .u8 0]) (results_model _ ((world4 w).drew) w.heap.size (w.heap.size + 1) zero16 zero8 _ _ rfl rfl rfl rfl b1 rfl b2 rfl) rfl ⟨rfl, b3.drew⟩
      · have hg : hexv (s[k].toNat : Int) < 0 := by
          rw [byt_eq s k (by omega)]
          have : ¬ goodAt s k := fun h => HBAD.out ⟨fun h' => absurd h' hs, fun _ => h⟩
          unfold goodAt at this; omega
        obtain ⟨q2, q35, q52⟩ := okAt_split k hs
        clear hs
        go_wp2_with (go_at_call 8; refine (digit_any _ _).mono ?_; rintro e w' ⟨rfl, rfl⟩)
        go_region
        go_wp2
        obtain ⟨b1, b2, b3⟩ := world4_blk w
        exact bodyPost_ret (v := .tuple #[.bool false, .agg zero16, .agg zero8, .int .u8 0]) (results_model _ ((world4 w).drew) w.heap.size (w.heap.size + 1) zero16 zero8 _ _ rfl rfl rfl rfl b1 rfl b2 rfl) rfl ⟨rfl, b3.drew⟩
end Go.Proofs.Qxb6614691aFmt
