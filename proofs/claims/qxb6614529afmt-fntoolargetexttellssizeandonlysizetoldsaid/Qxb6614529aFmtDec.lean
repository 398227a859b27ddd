/- Plain laws on decimal numerals: no Go in sight. -/
import Derived.Lib.ItoaLen
import Derived.Lib.ItoaMem
namespace Go.Proofs.Qxb6614529aFmt
open Go.Lib (decDigits itoa decDigits_one nDigits_le20 decDigits_length)
theorem dd_big {u : Nat} (h : ¬ u < 10) : decDigits u = decDigits (u / 10) ++ [UInt8.ofNat (48 + u % 10)] := by
  rw [decDigits, dif_neg h]
/-- the digits, none for 0 -/
def ddz (u : Nat) : List UInt8 := if u = 0 then [] else decDigits u
theorem ddz_step {u : Nat} (h : 0 < u) : ddz u = ddz (u / 10) ++ [UInt8.ofNat (48 + u % 10)] := by
  unfold ddz
  rw [if_neg (by omega)]
  by_cases h10 : u < 10
  · rw [if_pos (by omega), decDigits_one h10, show u % 10 = u by omega]; rfl
  · rw [if_neg (by omega), dd_big h10]
theorem ddz_len (u : Nat) (h : u < 18446744073709551616) : (ddz u).length ≤ 20 := by
  unfold ddz
  split
  · simp
  · rw [decDigits_length]; exact nDigits_le20 u h
theorem ddz_pos {u : Nat} (h : 0 < u) : 0 < (ddz u).length := by rw [ddz_step h]; simp
theorem dd_len (u : Nat) (h : u < 18446744073709551616) : (decDigits u).length ≤ 20 := by
  rw [decDigits_length]; exact nDigits_le20 u h
theorem toNat_digit (n : Nat) (h : n < 10) : (UInt8.ofNat (48 + n)).toNat = 48 + n := by
  simp; omega
theorem dd_digit : ∀ (u : Nat), ∀ c ∈ decDigits u, 48 ≤ c.toNat ∧ c.toNat ≤ 57 := by
  intro u
  induction u using Nat.strongRecOn with
  | _ u ih =>
    intro c hc
    by_cases h : u < 10
    · rw [decDigits_one h] at hc
      simp only [List.mem_singleton] at hc
      subst hc
      rw [toNat_digit u h]; omega
    · rw [dd_big h] at hc
      rcases List.mem_append.1 hc with hc | hc
      · exact ih (u / 10) (by omega) c hc
      · simp only [List.mem_singleton] at hc
        subst hc
        rw [toNat_digit _ (by omega)]; omega
/-- the number that some digits spell -/
def val (l : List UInt8) : Nat := l.foldl (fun a c => a * 10 + (c.toNat - 48)) 0
theorem val_snoc (l : List UInt8) (c : UInt8) : val (l ++ [c]) = val l * 10 + (c.toNat - 48) := by
  simp [val, List.foldl_append]
theorem val_dd : ∀ (u : Nat), val (decDigits u) = u := by
  intro u
  induction u using Nat.strongRecOn with
  | _ u ih =>
    by_cases h : u < 10
    · rw [decDigits_one h]
      simp only [val, List.foldl_cons, List.foldl_nil]
      rw [toNat_digit u h]; omega
    · rw [dd_big h, val_snoc, ih (u / 10) (by omega), toNat_digit _ (by omega)]; omega
theorem val_append_le (l m : List UInt8) : val l ≤ val (l ++ m) := by
  induction m generalizing l with
  | nil => simp
  | cons c m ih =>
    have h1 := ih (l ++ [c])
    have h2 := val_snoc l c
    have e : l ++ c :: m = (l ++ [c]) ++ m := by simp
    rw [e]; omega
theorem val_take_le (l : List UInt8) (k : Nat) : val (l.take k) ≤ val l := by
  have := val_append_le (l.take k) (l.drop k)
  rwa [List.take_append_drop] at this
theorem val_take_succ (l : List UInt8) (k : Nat) (h : k < l.length) : val (l.take (k + 1)) = val (l.take k) * 10 + (l[k].toNat - 48) := by
  rw [List.take_succ_eq_append_getElem h, val_snoc]
theorem dd_ne_nil (u : Nat) : decDigits u ≠ [] := by
  intro h
  have := congrArg List.length h
  rw [decDigits_length] at this
  have h2 := Go.Lib.nDigits_pos u
  simp at this; omega
/-- the first digit of a number that is not 0 -/
theorem dd_head : ∀ (u : Nat), 0 < u → ∀ (h : 0 < (decDigits u).length), ((decDigits u)[0]).toNat ≠ 48 := by
  intro u
  induction u using Nat.strongRecOn with
  | _ u ih =>
    intro hu h
    by_cases h10 : u < 10
    · have e := decDigits_one h10
      simp only [e, List.getElem_cons_zero]
      rw [toNat_digit u h10]; omega
    · have e := dd_big h10
      have hl : 0 < (decDigits (u / 10)).length := List.length_pos_iff.2 (dd_ne_nil _)
      have e2 : (decDigits u)[0] = (decDigits (u / 10))[0] := by
        simp only [e]; rw [List.getElem_append_left hl]
      rw [e2]
      exact ih (u / 10) (by omega) (by omega) hl
theorem dd_ten {u : Nat} (h : 0 < u) : decDigits (u * 10) = decDigits u ++ [48] := by
  rw [dd_big (by omega), show u * 10 / 10 = u by omega, show u * 10 % 10 = 0 by omega]; rfl
theorem itoa_inj {a b : Int} (h : itoa a = itoa b) : a = b := by
  have key : ∀ (x y : Nat), decDigits x = decDigits y → x = y := fun x y hxy => by
    have := congrArg val hxy; rwa [val_dd, val_dd] at this
  have noSign : ∀ (x : Nat) (l : List UInt8), decDigits x ≠ 45 :: l := fun x l hx => by
    have := dd_digit x 45 (by rw [hx]; simp); simp at this
  unfold itoa at h
  split at h <;> split at h
  · have := key _ _ (List.cons.inj h).2; omega
  · exact absurd h.symm (noSign _ _)
  · exact absurd h (noSign _ _)
  · have := key _ _ h; omega
end Go.Proofs.Qxb6614529aFmt
