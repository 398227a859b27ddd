/- Plain definitions; the contracts of zzBytes (4), zzDigit (8), lowerHexValue (15). -/
import Derived.Test.Qxb6614691aFmtCards
import Derived.WalkKit
import Derived.WalkSpells
import Derived.WalkLawsBesides
import Derived.Outline
import Derived.Lib.Strings
namespace Go.Proofs.Qxb6614691aFmt
open Go.RowKit
theorem ret_int {k : IntKind} {a b : Int} (h : a = b) : Ending.returned (.int k a) = .returned (.int k b) := by rw [h]
theorem ret_bool {a b : Bool} (h : a = b) : Ending.returned (.bool a) = .returned (.bool b) := by rw [h]
theorem ret_two {k : IntKind} {a b : Int} {v : Value} (h : a = b) : Ending.returned (.tuple #[.int k a, v]) = .returned (.tuple #[.int k b, v]) := by rw [h]
/-- the value of a lowercase hexadecimal digit, or -1 -/
def hexv (c : Int) : Int := if 48 ≤ c ∧ c ≤ 57 then c - 48 else if 97 ≤ c ∧ c ≤ 102 then c - 87 else -1
theorem hexv_range (c : Int) : -1 ≤ hexv c ∧ hexv c ≤ 15 := by
  unfold hexv
  repeat' split
  all_goals omega
set_option maxHeartbeats 400000 in
theorem bytes_any (s t : ByteArray) (w : World) (hs : s.size ≤ 65536) (ht : t.size ≤ 65536) :
    Calls Tryf.prog 4 #[.string s, .string t] w fun e w' => e = .returned (.bool true) ∧ w = w' := by
  go_enter Tryf.func4, Tryf.ntmps4
  go_wp2
  go_ret
  exact ⟨rfl, rfl⟩
set_option maxHeartbeats 400000 in
theorem lower_num (c : Int) (w : World) (h0 : 48 ≤ c) (h1 : c ≤ 57) :
    Calls Tryf.prog 15 #[.int .u8 c] w fun e w' => e = .returned (.tuple #[.int .u8 (c - 48), .bool true]) ∧ w = w' := by
  go_enter Tryf.func15, Tryf.ntmps15
  go_wp2
  go_ret2
  exact ⟨rfl, rfl⟩
set_option maxHeartbeats 400000 in
theorem lower_let (c : Int) (w : World) (h0 : 97 ≤ c) (h1 : c ≤ 102) :
    Calls Tryf.prog 15 #[.int .u8 c] w fun e w' => e = .returned (.tuple #[.int .u8 (c - 87), .bool true]) ∧ w = w' := by
  go_enter Tryf.func15, Tryf.ntmps15
  go_wp2
  go_ret2
  exact ⟨ret_two (by omega), rfl⟩
set_option maxHeartbeats 400000 in
theorem lower_no (c : Int) (w : World) (h0 : 0 ≤ c) (h1 : c ≤ 255) (h : hexv c = -1) :
    Calls Tryf.prog 15 #[.int .u8 c] w fun e w' => e = .returned (.tuple #[.int .u8 0, .bool false]) ∧ w = w' := by
  have h' : c < 48 ∨ (57 < c ∧ c < 97) ∨ 102 < c := by
    unfold hexv at h
    split at h
    · omega
    · split at h <;> omega
  clear h
  rcases h' with h | ⟨h2, h3⟩ | h
  all_goals
    go_enter Tryf.func15, Tryf.ntmps15
    go_wp2
    go_ret2
    exact ⟨rfl, rfl⟩
def alphaN (k : Nat) : Int := if k < 10 then 48 + k else 87 + k
theorem alpha_at : ∀ k : Fin 16, (((⟨#[48, 49, 50, 51, 52, 53, 54, 55, 56, 57, 97, 98, 99, 100, 101, 102]⟩ : ByteArray)[k.val]'k.isLt).toNat : Int) = alphaN k.val := by decide +kernel
theorem alpha_iff (k : Nat) (h : k < 16) (c : Int) : alphaN k = c ↔ hexv c = k := by
  unfold alphaN hexv
  repeat' split
  all_goals omega
set_option maxHeartbeats 400000 in
theorem digit_any (c : Int) (w : World) :
    Calls Tryf.prog 8 #[.int .u8 c] w fun e w' => e = .returned (.int .i64 (hexv c)) ∧ w = w' := by
  have hr := hexv_range c
  have HA : Hid (∀ (k : Nat) (h : k < 16), ((((⟨#[48, 49, 50, 51, 52, 53, 54, 55, 56, 57, 97, 98, 99, 100, 101, 102]⟩ : ByteArray)[k]'h).toNat : Int) = c ↔ hexv c = k)) := fun k h => by
    have h1 := alpha_at ⟨k, h⟩
    have h2 := alpha_iff k h c
    rw [← h2, ← h1]
  generalize hx : hexv c = x at *
  clear hx
  go_enter Tryf.func8, Tryf.ntmps8
  go_wp2
  go_loop [3] (fun i => ∃ k : Nat, k ≤ 16 ∧ i = .int .i64 k ∧ (x < 0 ∨ (k : Int) ≤ x)) (fun i => 16 - (intOf i).toNat)
  case atStart => exact ⟨0, by omega, rfl, by omega⟩
  case round =>
    obtain ⟨k, hk, rfl, hx⟩ := hrel
    by_cases hlt : k < 16
    · have hak := HA.out k hlt
      by_cases hxk : x = (k : Int)
      · have hq : ((((⟨#[48, 49, 50, 51, 52, 53, 54, 55, 56, 57, 97, 98, 99, 100, 101, 102]⟩ : ByteArray)[k]'hlt).toNat : Int) == c) = true := by simpa using hak.2 hxk
        clear hak hx
        subst hxk
        go_wp2
        go_ret
        exact ⟨rfl, rfl⟩
      · have hq : ((((⟨#[48, 49, 50, 51, 52, 53, 54, 55, 56, 57, 97, 98, 99, 100, 101, 102]⟩ : ByteArray)[k]'hlt).toNat : Int) == c) = false := by
          rw [beq_eq_false_iff_ne]; exact fun h => hxk (hak.1 h)
        clear hak
        go_wp2
        go_round
        case rel => exact ⟨k + 1, by omega, by go_num, by omega⟩
        case measure => simp [intOf]; omega
    · go_wp2
      go_ret
      exact ⟨ret_int (by omega), rfl⟩
end Go.Proofs.Qxb6614691aFmt
