/- The contract of zzParsesTo (8): at the numeral of n it answers true. -/
import Derived.Test.Qxb6614529aFmtUtoa
namespace Go.Proofs.Qxb6614529aFmt
open Go.RowKit
open Go.Lib (decDigits itoa)
set_option maxHeartbeats 1000000 in
theorem parse_pos (s : ByteArray) (n : Int) (m : Nat → Nat) (w : World) (hn0 : 0 ≤ n) (hn1 : n ≤ 9223372036854775807)
    (h1 : 1 ≤ s.size) (h2 : s.size ≤ 20)
    (hd : ∀ k (h : k < s.size), 48 ≤ (s[k].toNat : Int) ∧ (s[k].toNat : Int) ≤ 57)
    (hz : s.size = 1 ∨ (s[0].toNat : Int) ≠ 48)
    (hm0 : m 0 = 0) (hms : ∀ k (h : k < s.size), m (k + 1) = m k * 10 + (s[k].toNat - 48)) (hmb : ∀ k, k ≤ s.size → m k ≤ n.natAbs) (hme : m s.size = n.natAbs) :
    Calls Tryf.prog 8 #[.string s, .int .i64 n] w fun e w' => e = .returned (.bool true) ∧ w = w' := by
  have hd0 := hd 0 (by omega)
  have HD : Hid (∀ k (h : k < s.size), 48 ≤ (s[k].toNat : Int) ∧ (s[k].toNat : Int) ≤ 57) := hd
  have HM0 : Hid (m 0 = 0) := hm0
  have HMS : Hid (∀ k (h : k < s.size), m (k + 1) = m k * 10 + (s[k].toNat - 48)) := hms
  have HMB : Hid (∀ k, k ≤ s.size → m k ≤ n.natAbs) := hmb
  have HME : Hid (m s.size = n.natAbs) := hme
  clear hd hm0 hms hmb hme
  have hsz0 : (0 : Int) < (s.size : Int) := by omega
  have hq : ((s[0].toNat : Int) == 45) = false := by simp; omega
  have hne : ¬ s = ByteArray.empty := by
    rintro rfl; simp at h1
  have hz' : ((s[0].toNat : Int) == 48) = false ∨ (((s[0].toNat : Int) == 48) = true ∧ s.size ≤ 1) := by
    by_cases h : (s[0].toNat : Int) = 48
    · right; exact ⟨by simp [h], by rcases hz with hz | hz <;> omega⟩
    · left; simpa using h
  clear hz
  rcases hz' with hq48 | ⟨hq48, hs1⟩
  all_goals
    go_enter Tryf.func8, Tryf.ntmps8
    go_wp2
    go_loop [6, 7] (fun i g => ∃ k : Nat, k ≤ s.size ∧ i = .int .i64 k ∧ g = .int .u64 (m k)) (fun i _ => s.size - (intOf i).toNat)
    case atStart => exact ⟨0, Nat.zero_le _, rfl, by rw [HM0.out]; rfl⟩
    case round =>
      obtain ⟨k, hk, rfl, rfl⟩ := hrel
      have hb := HMB.out k hk
      by_cases hlt : k < s.size
      · have hdk := HD.out k hlt
        have hb2 := HMB.out (k + 1) hlt
        have hst := HMS.out k hlt
        have HST : Hid (m (k + 1) = m k * 10 + (s[k].toNat - 48)) := hst
        have hov : ((m k : Nat) : Int) * 10 + ((s[k].toNat : Int) - 48) ≤ 9223372036854775807 := by omega
        clear hst hb2
        go_wp2
        go_round
        case rel =>
          refine ⟨k + 1, by omega, by go_num, ?_⟩
          rw [HST.out]
          congr 1
          omega
        case measure => simp [intOf]; omega
      · go_wp2_with (go_at_call 12; refine (mag_any _ _ (by omega) (by omega)).mono ?_; rintro e w' ⟨rfl, rfl⟩)
        go_ret
        have hke : k = s.size := by omega
        have := HME.out
        subst hke
        exact ⟨ret_bool (by rw [this]; simp; omega), rfl⟩
set_option maxHeartbeats 1000000 in
theorem parse_neg (s : ByteArray) (n : Int) (m : Nat → Nat) (w : World) (hn0 : n < 0) (hn1 : -9223372036854775808 ≤ n)
    (h1 : 2 ≤ s.size) (h2 : s.size ≤ 21)
    (hd : ∀ k (h : k < s.size), 1 ≤ k → 48 ≤ (s[k].toNat : Int) ∧ (s[k].toNat : Int) ≤ 57)
    (hs : (s[0].toNat : Int) = 45) (hz : (s[1].toNat : Int) ≠ 48)
    (hm0 : m 1 = 0) (hms : ∀ k (h : k < s.size), 1 ≤ k → m (k + 1) = m k * 10 + (s[k].toNat - 48)) (hmb : ∀ k, k ≤ s.size → 1 ≤ k → m k ≤ n.natAbs) (hme : m s.size = n.natAbs) :
    Calls Tryf.prog 8 #[.string s, .int .i64 n] w fun e w' => e = .returned (.bool true) ∧ w = w' := by
  have HD : Hid (∀ k (h : k < s.size), 1 ≤ k → 48 ≤ (s[k].toNat : Int) ∧ (s[k].toNat : Int) ≤ 57) := hd
  have HM0 : Hid (m 1 = 0) := hm0
  have HMS : Hid (∀ k (h : k < s.size), 1 ≤ k → m (k + 1) = m k * 10 + (s[k].toNat - 48)) := hms
  have HMB : Hid (∀ k, k ≤ s.size → 1 ≤ k → m k ≤ n.natAbs) := hmb
  have HME : Hid (m s.size = n.natAbs) := hme
  clear hd hm0 hms hmb hme
  have hsz0 : (0 : Int) < (s.size : Int) := by omega
  have hq : ((s[0].toNat : Int) == 45) = true := by simp; omega
  have hq48 : ((s[1].toNat : Int) == 48) = false := by simpa using hz
  clear hs hz
  go_enter Tryf.func8, Tryf.ntmps8
  go_wp2
  go_loop [6, 7] (fun i g => ∃ k : Nat, k ≤ s.size ∧ 1 ≤ k ∧ i = .int .i64 k ∧ g = .int .u64 (m k)) (fun i _ => s.size - (intOf i).toNat)
  case atStart => exact ⟨1, by omega, Nat.le_refl _, rfl, by rw [HM0.out]; rfl⟩
  case round =>
    obtain ⟨k, hk, hk1, rfl, rfl⟩ := hrel
    have hb := HMB.out k hk hk1
    by_cases hlt : k < s.size
    · have hdk := HD.out k hlt hk1
      have hb2 := HMB.out (k + 1) hlt (by omega)
      have hst := HMS.out k hlt hk1
      have HST : Hid (m (k + 1) = m k * 10 + (s[k].toNat - 48)) := hst
      have hov : ((m k : Nat) : Int) * 10 + ((s[k].toNat : Int) - 48) ≤ 9223372036854775808 := by omega
      clear hst hb2
      go_wp2
      go_round
      case rel =>
        refine ⟨k + 1, by omega, by omega, by go_num, ?_⟩
        rw [HST.out]
        congr 1
        omega
      case measure => simp [intOf]; omega
    · go_wp2_with (go_at_call 12; refine (mag_any _ _ (by omega) (by omega)).mono ?_; rintro e w' ⟨rfl, rfl⟩)
      go_ret
      have hke : k = s.size := by omega
      have := HME.out
      subst hke
      exact ⟨ret_bool (by rw [this]; simp), rfl⟩
theorem size_arr (l : List UInt8) : (⟨l.toArray⟩ : ByteArray).size = l.length := by simp [ByteArray.size]
theorem get_arr (l : List UInt8) (k : Nat) (h : k < (⟨l.toArray⟩ : ByteArray).size) : (⟨l.toArray⟩ : ByteArray)[k] = l[k]'(size_arr l ▸ h) := rfl
/-- at the numeral of n zzParsesTo answers true -/
theorem parses_any (n : Int) (w : World) (h0 : -9223372036854775808 ≤ n) (h1 : n ≤ 9223372036854775807) :
    Calls Tryf.prog 8 #[.string ⟨(itoa n).toArray⟩, .int .i64 n] w fun e w' => e = .returned (.bool true) ∧ w = w' := by
  by_cases hn : n < 0
  · have e : itoa n = 45 :: decDigits n.natAbs := by unfold itoa; rw [if_pos hn]
    rw [e]
    have hne : 0 < (decDigits n.natAbs).length := List.length_pos_iff.2 (dd_ne_nil _)
    have hle := dd_len n.natAbs (by omega)
    refine parse_neg _ n (fun k => val ((decDigits n.natAbs).take (k - 1))) w hn h0 (by rw [size_arr]; simp; omega) (by rw [size_arr]; simp; omega) ?_ ?_ ?_ ?_ ?_ ?_ ?_
    · intro k h hk
      rw [get_arr]
      rw [size_arr] at h
      obtain ⟨k, rfl⟩ : ∃ q, k = q + 1 := ⟨k - 1, by omega⟩
      have := dd_digit n.natAbs ((decDigits n.natAbs)[k]'(by simpa using h)) (List.getElem_mem _)
      simp only [List.getElem_cons_succ]
      omega
    · rw [get_arr]; rfl
    · rw [get_arr]
      have := dd_head n.natAbs (by omega) hne
      simp only [List.getElem_cons_succ]
      omega
    · simp [val]
    · intro k h hk
      rw [get_arr]
      rw [size_arr] at h
      obtain ⟨k, rfl⟩ : ∃ q, k = q + 1 := ⟨k - 1, by omega⟩
      simp only [List.getElem_cons_succ, Nat.add_sub_cancel]
      exact val_take_succ _ _ (by simpa using h)
    · intro k _ _
      have := val_take_le (decDigits n.natAbs) (k - 1)
      rw [val_dd] at this; exact this
    · rw [size_arr]
      simp only [List.length_cons, Nat.add_sub_cancel, List.take_length]
      exact val_dd _
  · have e : itoa n = decDigits n.natAbs := by unfold itoa; rw [if_neg hn]; congr 1; omega
    rw [e]
    have hne : 0 < (decDigits n.natAbs).length := List.length_pos_iff.2 (dd_ne_nil _)
    have hle := dd_len n.natAbs (by omega)
    refine parse_pos _ n (fun k => val ((decDigits n.natAbs).take k)) w (by omega) h1 (by rw [size_arr]; omega) (by rw [size_arr]; omega) ?_ ?_ ?_ ?_ ?_ ?_
    · intro k h
      rw [get_arr]
      rw [size_arr] at h
      have := dd_digit n.natAbs ((decDigits n.natAbs)[k]) (List.getElem_mem _)
      omega
    · by_cases hz : n.natAbs = 0
      · left; rw [size_arr, hz, Go.Lib.decDigits_one (by omega)]; rfl
      · right
        rw [get_arr]
        have := dd_head n.natAbs (by omega) hne
        omega
    · simp [val]
    · intro k h
      rw [get_arr]
      rw [size_arr] at h
      exact val_take_succ _ _ h
    · intro k _
      have := val_take_le (decDigits n.natAbs) k
      rw [val_dd] at this; exact this
    · rw [size_arr]
      simp only [List.take_length]
      exact val_dd _
end Go.Proofs.Qxb6614529aFmt
