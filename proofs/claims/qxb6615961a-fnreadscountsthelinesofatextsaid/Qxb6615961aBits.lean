/- Plain laws on int32's bits, as the walk spells them, for the byte forms of zzEnc. -/
import Derived.WalkKit
import Derived.Laws.BitsAllLaws
namespace Go.Proofs.Qxb6615961a
theorem wrap_i32_fit (n : Int) (h0 : 0 ≤ n) (h1 : n < 2147483648) : IntKind.i32.wrap n = n := by
  simp only [IntKind.wrap, IntKind.bits, IntKind.signed]
  simp
  omega
theorem i32_or_nat (a b : Nat) (ha : a < 2147483648) (hb : b < 2147483648) : bits .or .i32 (a : Int) (b : Int) = ((a ||| b : Nat) : Int) := by
  show IntKind.i32.wrap ((BitVec.ofInt 32 (a : Int) ||| BitVec.ofInt 32 (b : Int)).toNat : Int) = _
  rw [BitVec.toNat_or, ofInt_u32 a (by omega), ofInt_u32 b (by omega)]
  have : a ||| b < 2 ^ 31 := Nat.or_lt_two_pow ha hb
  exact wrap_i32_fit _ (by omega) (by omega)
theorem i32_and_nat (a b : Nat) (ha : a < 2147483648) (hb : b < 2147483648) : bits .and .i32 (a : Int) (b : Int) = ((a &&& b : Nat) : Int) := by
  show IntKind.i32.wrap ((BitVec.ofInt 32 (a : Int) &&& BitVec.ofInt 32 (b : Int)).toNat : Int) = _
  rw [BitVec.toNat_and, ofInt_u32 a (by omega), ofInt_u32 b (by omega)]
  have : a &&& b ≤ a := Nat.and_le_left
  exact wrap_i32_fit _ (by omega) (by omega)
theorem and63 (x : Int) (h0 : 0 ≤ x) (h1 : x < 2147483648) : bits .and .i32 x 63 = x % 64 := by
  obtain ⟨n, rfl⟩ := Int.eq_ofNat_of_zero_le h0
  have := i32_and_nat n 63 (by omega) (by omega)
  rw [show (n &&& 63) = n % 64 from Nat.and_two_pow_sub_one_eq_mod n 6] at this
  simpa using this
theorem or_low (c k : Nat) (y : Int) (hc : c = (c / 2 ^ k) * 2 ^ k) (hcl : c < 256) (h0 : 0 ≤ y) (h1 : y < ((2 ^ k : Nat) : Int)) (hk : y < 256) : bits .or .i32 (c : Int) y = c + y := by
  obtain ⟨n, rfl⟩ := Int.eq_ofNat_of_zero_le h0
  rw [i32_or_nat c n (by omega) (by omega)]
  have hlt : n < 2 ^ k := by omega
  have := Nat.two_pow_add_eq_or_of_lt hlt (c / 2 ^ k)
  rw [Nat.mul_comm] at this
  rw [← hc] at this
  rw [← this]; simp
theorem or128 (y : Int) (h0 : 0 ≤ y) (h1 : y < 64) : bits .or .i32 128 y = 128 + y := or_low 128 6 y (by decide) (by decide) h0 (by simpa using h1) (by omega)
theorem or192 (y : Int) (h0 : 0 ≤ y) (h1 : y < 64) : bits .or .i32 192 y = 192 + y := or_low 192 6 y (by decide) (by decide) h0 (by simpa using h1) (by omega)
theorem or224 (y : Int) (h0 : 0 ≤ y) (h1 : y < 16) : bits .or .i32 224 y = 224 + y := or_low 224 4 y (by decide) (by decide) h0 (by simpa using h1) (by omega)
theorem or240 (y : Int) (h0 : 0 ≤ y) (h1 : y < 8) : bits .or .i32 240 y = 240 + y := or_low 240 3 y (by decide) (by decide) h0 (by simpa using h1) (by omega)
/-- a byte of the form '0x80 | x & 0x3f' -/
theorem low6 (x : Int) (h0 : 0 ≤ x) (h1 : x < 2147483648) : bits .or .i32 128 (bits .and .i32 x 63) % 256 = 128 + x % 64 := by
  rw [and63 x h0 h1, or128 _ (by omega) (by omega)]; omega
end Go.Proofs.Qxb6615961a
