/- The contracts of zzTail (10), zzNumeralLen (7), zzWhole (6). -/
import Derived.Test.Qxb6614529aFmtParse
import Derived.Lib.Strings
import Derived.OpenShut
namespace Go.Proofs.Qxb6614529aFmt
open Go.RowKit
open Go.Extern
open Go.Lib (decDigits itoa)
theorem utoa_any (u : Nat) (hm : u < 18446744073709551616) (w : World) :
    Calls Tryf.prog 11 #[.int .u64 (u : Int)] w fun e w' => e = .returned (.string ⟨(decDigits u).toArray⟩) ∧ Below w.heap.size w w' := by
  by_cases h : u = 0
  · subst h
    have e : decDigits 0 = [48] := Go.Lib.decDigits_one (by omega)
    rw [e]; exact utoa_zero w
  · exact utoa_pos u (by omega) hm w
theorem dd64 : decDigits 64 = [54, 52] := Go.Lib.decDigits_two (i := 64) (by omega) (by omega)
theorem mag64 (w : World) : Calls Tryf.prog 12 #[.int .i64 64] w fun e w' => e = .returned (.int .u64 64) ∧ w = w' := mag_any 64 w (by omega) (by omega)
theorem utoa64 (w : World) : Calls Tryf.prog 11 #[.int .u64 64] w fun e w' => e = .returned (.string ⟨#[54, 52]⟩) ∧ Below w.heap.size w w' := by
  have := utoa_any 64 (by omega) w
  rw [dd64] at this; exact this
theorem itoa_neg_len {n : Int} (h : n < 0) : (itoa n).length = (decDigits n.natAbs).length + 1 := by unfold itoa; rw [if_pos h]; simp
theorem itoa_pos_eq {n : Int} (h : 0 ≤ n) : itoa n = decDigits n.natAbs := by unfold itoa; rw [if_neg (by omega)]; congr 1; omega
def tailS : ByteArray := ⟨tailL.toArray⟩
set_option maxHeartbeats 1000000 in
set_option maxRecDepth 100000 in
theorem tail_any (w : World) :
    Calls Tryf.prog 10 #[] w fun e w' => e = .returned (.string tailS) ∧ Below w.heap.size w w' := by
  go_enter Tryf.func10, Tryf.ntmps10
  go_wp2_with (first
    | (go_at_call 14; go_in)
    | (go_at_call 12; refine (mag64 _).mono ?_; rintro e w' ⟨rfl, rfl⟩)
    | (go_at_call 11; refine (utoa64 _).mono ?_; rintro e w1 ⟨rfl, hb⟩))
  go_ret
  exact ⟨ret_str (by decide +kernel), hb⟩
set_option maxHeartbeats 1000000 in
theorem numlen_any (n : Int) (w : World) (h0 : -9223372036854775808 ≤ n) (h1 : n ≤ 9223372036854775807) :
    Calls Tryf.prog 7 #[.int .i64 n] w fun e w' => e = .returned (.int .i64 ((itoa n).length : Int)) ∧ Below w.heap.size w w' := by
  have hl := dd_len n.natAbs (by omega)
  go_enter Tryf.func7, Tryf.ntmps7
  go_wp2_with (first
    | (go_at_call 12; refine (mag_any _ _ h0 h1).mono ?_; rintro e w' ⟨rfl, rfl⟩)
    | (go_at_call 11; refine (utoa_any n.natAbs (by omega) _).mono ?_; rintro e w1 ⟨rfl, hb⟩))
  all_goals
    go_ret
    refine ⟨ret_int ?_, hb⟩
  · have hn : n < 0 := by assumption
    rw [itoa_neg_len hn]; omega
  · have hn : 0 ≤ n := by assumption
    rw [itoa_pos_eq hn]
theorem tailS_size : tailS.size = 130 := by decide +kernel
set_option maxHeartbeats 1000000 in
set_option maxRecDepth 100000 in
theorem whole_any (s : ByteArray) (n : Int) (w : World) (h0 : -9223372036854775808 ≤ n) (h1 : n ≤ 9223372036854775807) (hs0 : 154 ≤ s.size) (hs1 : s.size ≤ 200)
    (e0 : (s.extract 0 23).toList = [116, 104, 101, 32, 114, 101, 113, 117, 101, 115, 116, 32, 119, 111, 117, 108, 100, 32, 104, 111, 108, 100, 32]) (e1 : (s.extract (s.size - 130) s.size).toList = tailS.toList) (e2 : s.extract 23 (s.size - 130) = ⟨(itoa n).toArray⟩) :
    Calls Tryf.prog 6 #[.string s, .int .i64 n] w fun e w' => e = .returned (.bool true) ∧ Below w.heap.size w w' := by
  have E2 : Hid (s.extract 23 (s.size - 130) = ⟨(itoa n).toArray⟩) := e2
  have hts := tailS_size
  clear e2
  go_enter Tryf.func6, Tryf.ntmps6
  go_wp2_with (go_at_call 10; refine (tail_any _).mono ?_; rintro e w1 ⟨rfl, hb⟩)
  rw [E2.out]
  refine (parses_any n _ h0 h1).mono ?_
  rintro e w2 ⟨rfl, rfl⟩
  go_wp2
  go_ret
  exact ⟨rfl, hb⟩
theorem txt_data (n : Int) : (txt n).data.toList = headL ++ itoa n ++ tailL := by simp [txt, textL]
theorem headL_len : headL.length = 23 := by decide
theorem tailL_len : tailL.length = 130 := by decide +kernel
theorem txt_size (n : Int) : (txt n).size = 153 + (itoa n).length := by
  have : (txt n).size = (txt n).data.toList.length := rfl
  rw [this, txt_data, List.length_append, List.length_append, headL_len, tailL_len]; omega
theorem bytes_ext {a : ByteArray} {l : List UInt8} (h : a.data.toList = l) : a = ⟨l.toArray⟩ := by
  subst h; rfl
theorem txt_head (n : Int) : ((txt n).extract 0 23).toList = headL := by
  rw [Go.Lib.extract_toList, txt_data]
  simp [headL_len]
theorem txt_tail (n : Int) : ((txt n).extract ((txt n).size - 130) (txt n).size).toList = tailS.toList := by
  rw [Go.Lib.extract_toList, txt_data, txt_size, Go.Lib.toList_data]
  have e : 153 + (itoa n).length - 130 = (headL ++ itoa n).length := by rw [List.length_append, headL_len]; omega
  rw [e, List.drop_left]
  have e' : 153 + (itoa n).length - (headL ++ itoa n).length = tailL.length := by rw [List.length_append, headL_len, tailL_len]; omega
  rw [e', List.take_length]; rfl
theorem txt_num (n : Int) (k : Nat) (hk : k = 23 + (itoa n).length) : (txt n).extract 23 k = ⟨(itoa n).toArray⟩ := by
  apply bytes_ext
  rw [Go.Lib.extract_data, txt_data, hk]
  have e : headL ++ itoa n ++ tailL = headL ++ (itoa n ++ tailL) := by simp
  rw [e, show (23 : Nat) = headL.length from headL_len.symm, List.drop_left, Nat.add_sub_cancel_left, List.take_left]
theorem itoa_len_pos (n : Int) : 1 ≤ (itoa n).length := by
  unfold itoa
  split
  · simp
  · exact List.length_pos_iff.2 (dd_ne_nil _)
theorem whole_txt (n : Int) (w : World) (hw : (Lit.int .i64 n).wf = true) :
    Calls Tryf.prog 6 #[.string (txt n), .int .i64 n] w fun e w' => e = .returned (.bool true) ∧ Below w.heap.size w w' := by
  have hb := bounds_i64 hw
  have hl := FmtText.itoa_length_le hw
  have hp := itoa_len_pos n
  have hs := txt_size n
  exact whole_any (txt n) n w hb.1 hb.2 (by omega) (by omega) (txt_head n) (txt_tail n) (txt_num n _ (by omega))
end Go.Proofs.Qxb6614529aFmt
