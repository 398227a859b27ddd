/- The contracts of zzEnc (5), Reads (7) and breakLen (10). -/
import Derived.Test.Qxb6615961aRows
import Derived.Test.Qxb6615961aBits
import Derived.WalkLawsBesides
import Derived.Outline
namespace Go.Proofs.Qxb6615961a
open Go.RowKit
theorem ret_int {k : IntKind} {a b : Int} (h : a = b) : Ending.returned (.int k a) = .returned (.int k b) := by rw [h]
theorem ret_bool {a b : Bool} (h : a = b) : Ending.returned (.bool a) = .returned (.bool b) := by rw [h]
/-- the bytes of zzEnc -/
def encL (r : Int) : List Int :=
  if r < 2048 then [192 + r / 64, 128 + r % 64]
  else if r < 65536 then [224 + r / 4096, 128 + r / 64 % 64, 128 + r % 64]
  else [240 + r / 262144, 128 + r / 4096 % 64, 128 + r / 64 % 64, 128 + r % 64]
/-- what breakLen answers, of how many bytes are left and the first three of them -/
def brk3 (m : Nat) (a0 a1 a2 : Int) : Int :=
  if a0 = 10 then 1 else if a0 = 13 then (if 1 < m ∧ a1 = 10 then 2 else 1)
  else if a0 = 194 then (if 1 < m ∧ a1 = 133 then 2 else 0)
  else if a0 = 226 then (if 2 < m ∧ a1 = 128 ∧ (a2 = 168 ∨ a2 = 169) then 3 else 0) else 0

theorem alloc_eq_of {w : World} {a b : Array Value} (h : a = b) : w.alloc (.cells a 5) = w.alloc (.cells b 5) := by rw [h]
set_option maxHeartbeats 400000 in
theorem enc_two (r : Int) (w : World) (h0 : 128 ≤ r) (h1 : r < 2048) :
    Calls Try.prog 5 #[.int .i32 r] w fun e w' => e = .returned (.slice (some ⟨w.heap.size, 0, none⟩) 2 2) ∧
      w' = w.alloc (.cells #[.int .u8 (192 + r / 64), .int .u8 (128 + r % 64)] 5) := by
  go_enter Try.func5, Try.ntmps5
  go_wp2
  go_ret
  exact ⟨rfl, alloc_eq_of (by rw [low6 r (by omega) (by omega)])⟩
set_option maxHeartbeats 400000 in
theorem enc_three (r : Int) (w : World) (h0 : 2048 ≤ r) (h1 : r < 65536) :
    Calls Try.prog 5 #[.int .i32 r] w fun e w' => e = .returned (.slice (some ⟨w.heap.size, 0, none⟩) 3 3) ∧
      w' = w.alloc (.cells #[.int .u8 (224 + r / 4096), .int .u8 (128 + r / 64 % 64), .int .u8 (128 + r % 64)] 5) := by
  go_enter Try.func5, Try.ntmps5
  go_wp2
  go_ret
  refine ⟨rfl, alloc_eq_of ?_⟩
  rw [low6 r (by omega) (by omega), low6 (r / 64) (by omega) (by omega)]
  first | rfl | (rw [or224 _ (by omega) (by omega), show (224 + r / 4096) % 256 = 224 + r / 4096 by omega])
set_option maxHeartbeats 400000 in
theorem enc_four (r : Int) (w : World) (h0 : 65536 ≤ r) (h1 : r ≤ 1114111) :
    Calls Try.prog 5 #[.int .i32 r] w fun e w' => e = .returned (.slice (some ⟨w.heap.size, 0, none⟩) 4 4) ∧
      w' = w.alloc (.cells #[.int .u8 (240 + r / 262144), .int .u8 (128 + r / 4096 % 64), .int .u8 (128 + r / 64 % 64), .int .u8 (128 + r % 64)] 5) := by
  go_enter Try.func5, Try.ntmps5
  go_wp2
  go_ret
  refine ⟨rfl, alloc_eq_of ?_⟩
  rw [low6 r (by omega) (by omega), low6 (r / 64) (by omega) (by omega), low6 (r / 4096) (by omega) (by omega)]
  first | rfl | (rw [or240 _ (by omega) (by omega), show (240 + r / 262144) % 256 = 240 + r / 262144 by omega])
theorem enc_any (r : Int) (w : World) (h0 : 128 ≤ r) (h1 : r ≤ 1114111) :
    Calls Try.prog 5 #[.int .i32 r] w fun e w' => e = .returned (.slice (some ⟨w.heap.size, 0, none⟩) (encL r).length (encL r).length) ∧
      w' = w.alloc (.cells ((encL r).map (Value.int .u8)).toArray 5) := by
  by_cases h2 : r < 2048
  · have e : encL r = [192 + r / 64, 128 + r % 64] := by simp [encL, h2]
    rw [e]; exact enc_two r w h0 h2
  · by_cases h3 : r < 65536
    · have e : encL r = [224 + r / 4096, 128 + r / 64 % 64, 128 + r % 64] := by simp [encL, h2, h3]
      rw [e]; exact enc_three r w (by omega) h3
    · have e : encL r = [240 + r / 262144, 128 + r / 4096 % 64, 128 + r / 64 % 64, 128 + r % 64] := by simp [encL, h2, h3]
      rw [e]; exact enc_four r w (by omega) h1

set_option maxHeartbeats 1000000 in
theorem breakLen_any (b off n c i : Nat) (a0 a1 a2 : Int) (w : World) (hi : i < n) (hn : n ≤ 10000000)
    (c0 : w.cell? ⟨b, off + i, none⟩ = some (.int .u8 a0))
    (c1 : i + 1 < n → w.cell? ⟨b, off + (i + 1), none⟩ = some (.int .u8 a1))
    (c2 : i + 2 < n → w.cell? ⟨b, off + (i + 2), none⟩ = some (.int .u8 a2)) :
    Calls Try.prog 10 #[.slice (some ⟨b, off, none⟩) n c, .int .i64 i] w fun e w' => e = .returned (.int .i64 (brk3 (n - i) a0 a1 a2)) ∧ w' = w := by
  by_cases h2 : i + 2 < n
  · replace c1 := c1 (by omega)
    replace c2 := c2 h2
    go_enter Try.func10, Try.ntmps10
    go_wp2
    all_goals
      go_ret
      refine ⟨ret_int ?_, rfl⟩
      simp_all [brk3]
    all_goals omega
  · by_cases h1 : i + 1 < n
    · replace c1 := c1 (by omega)
      clear c2
      go_enter Try.func10, Try.ntmps10
      go_wp2
      all_goals
        go_ret
        refine ⟨ret_int ?_, rfl⟩
        simp_all [brk3]
      all_goals omega
    · clear c1 c2
      go_enter Try.func10, Try.ntmps10
      go_wp2
      all_goals
        go_ret
        refine ⟨ret_int ?_, rfl⟩
        simp_all [brk3]
      all_goals omega
set_option maxHeartbeats 400000 in
/-- ZZbreakLen at the head of a slice -/
theorem zzbreak_head (b n c : Nat) (a0 a1 a2 : Int) (w : World) (hi : 0 < n) (hn : n ≤ 10000000)
    (c0 : w.cell? ⟨b, 0, none⟩ = some (.int .u8 a0))
    (c1 : 1 < n → w.cell? ⟨b, 1, none⟩ = some (.int .u8 a1))
    (c2 : 2 < n → w.cell? ⟨b, 2, none⟩ = some (.int .u8 a2)) :
    Calls Try.prog 6 #[.slice (some ⟨b, 0, none⟩) n c, .int .i64 0] w fun e w' => e = .returned (.int .i64 (brk3 n a0 a1 a2)) ∧ w' = w := by
  have H' : Hid (Calls Try.prog 10 #[.slice (some ⟨b, 0, none⟩) n c, .int .i64 0] w fun e w' => e = .returned (.int .i64 (brk3 n a0 a1 a2)) ∧ w' = w) :=
    breakLen_any b 0 n c 0 a0 a1 a2 w hi hn (by simpa using c0) (by simpa using c1) (by simpa using c2)
  clear c0 c1 c2
  go_enter Try.func6, Try.ntmps6
  go_wp2_with fail
  refine H'.out.mono ?_
  rintro e w' ⟨rfl, rfl⟩
  go_wp2
  go_ret
  exact ⟨rfl, rfl⟩
/-- what Reads answers -/
def readsB (r : Int) : Bool := (decide (160 ≤ r) && decide (r ≤ 65533) && (r != 8232) && (r != 8233)) || decide (65536 ≤ r)
set_option maxHeartbeats 400000 in
theorem reads_any (r : Int) (w : World) : Calls Try.prog 7 #[.int .i32 r] w fun e w' => e = .returned (.bool (readsB r)) ∧ w' = w := by
  go_enter Try.func7, Try.ntmps7
  go_wp2
  all_goals
    go_ret
    refine ⟨ret_bool ?_, rfl⟩
    simp_all [readsB]
  all_goals omega
end Go.Proofs.Qxb6615961a
