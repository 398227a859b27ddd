/- The contract of Line (9). -/
import Derived.Test.Qxb6615961aPlain
namespace Go.Proofs.Qxb6615961a
open Go.RowKit
set_option maxHeartbeats 1000000 in
theorem line_nil (w : World) :
    Calls Try.prog 9 #[.slice none 0 0, .int .i64 0] w fun e w' => e = .returned (.int .i64 1) ∧ w' = w := by
  go_enter Try.func9, Try.ntmps9
  go_wp2
  refine wp_loop_rounds 1 ?_
  rw [rounds_succ]
  go_wp2
  go_ret
  exact ⟨rfl, rfl⟩
set_option maxHeartbeats 1000000 in
theorem line_any (l : List Int) (g n c : Nat) (w : World) (hl : l.length = n) (hn : n ≤ 1000000)
    (hc : ∀ j, j < n → w.cell? ⟨g, j, none⟩ = some (.int .u8 (l.getD j 0))) :
    Calls Try.prog 9 #[.slice (some ⟨g, 0, none⟩) n c, .int .i64 n] w fun e w' => e = .returned (.int .i64 (1 + lc 0 l)) ∧ w' = w := by
  have HL : Hid (l.length = n) := hl
  clear hl
  have HC : Hid (∀ j, j < n → w.cell? ⟨g, j, none⟩ = some (.int .u8 (l.getD j 0))) := hc
  clear hc
  go_enter Try.func9, Try.ntmps9
  go_wp2
  go_loop [5, 6] (fun ln at_ => ∃ k m : Nat, k ≤ n ∧ at_ = .int .i64 k ∧ ln = .int .i64 m ∧ m ≤ 1 + n ∧ Hid (m + lc 0 (l.drop k) = 1 + lc 0 l)) (fun _ i => n - (intOf i).toNat)
  case atStart => exact ⟨0, 1, Nat.zero_le _, rfl, rfl, by omega, by simp [Hid]⟩
  case round =>
    obtain ⟨k, m, hk, rfl, rfl, hm, hinv⟩ := hrel
    by_cases hlt : k < n
    · have hr := brk3_range (n - k) (l.getD k 0) (l.getD (k + 1) 0) (l.getD (k + 2) 0) (by omega)
      have HB : Hid (brkAt (l.drop k) = brk3 (n - k) (l.getD k 0) (l.getD (k + 1) 0) (l.getD (k + 2) 0)) := by
        have := brkAt_drop l k; rw [HL.out] at this; exact this
      have HD : Hid (lc 0 (l.drop k) = if 0 < brkAt (l.drop k) then 1 + lc 0 (l.drop (k + (brkAt (l.drop k)).toNat)) else lc 0 (l.drop (k + 1))) :=
        lc_drop l k (by have := HL.out; omega)
      have HCall : Hid (Calls Try.prog 10 #[.slice (some ⟨g, 0, none⟩) n c, .int .i64 k] w fun e w' => e = .returned (.int .i64 (brk3 (n - k) (l.getD k 0) (l.getD (k + 1) 0) (l.getD (k + 2) 0))) ∧ w' = w) :=
        breakLen_any g 0 n c k (l.getD k 0) (l.getD (k + 1) 0) (l.getD (k + 2) 0) w hlt (by omega)
          (by simpa using HC.out k hlt) (fun h => by simpa using HC.out (k + 1) h) (fun h => by simpa using HC.out (k + 2) h)
      generalize hbv : brk3 (n - k) (l.getD k 0) (l.getD (k + 1) 0) (l.getD (k + 2) 0) = bv at *
      clear hbv
      go_wp2_with (go_at_call 10; refine HCall.out.mono ?_; rintro e w' ⟨rfl, rfl⟩)
      all_goals go_round
      case rel =>
        have hpos : 0 < bv := by assumption
        have h1 := hinv.out
        have h2 := HD.out
        rw [HB.out, if_pos hpos] at h2
        have h3 := lc_le l 0
        have h4 := HL.out
        exact ⟨k + bv.toNat, m + 1, by omega, by congr 1; omega, by go_num, by omega, by unfold Hid; omega⟩
      case measure => simp [intOf]; omega
      case rel =>
        have hneg : bv ≤ 0 := by assumption
        have h1 := hinv.out
        have h2 := HD.out
        rw [HB.out, if_neg (by omega)] at h2
        exact ⟨k + 1, m, by omega, by go_num, rfl, by omega, by unfold Hid; omega⟩
      case measure => simp [intOf]; omega
    · go_wp2
      go_ret
      have : k = n := by omega
      subst this
      refine ⟨ret_int ?_, rfl⟩
      have h1 := hinv.out
      rw [List.drop_eq_nil_of_le (by have := HL.out; omega)] at h1
      simp [lc] at h1
      omega
end Go.Proofs.Qxb6615961a
