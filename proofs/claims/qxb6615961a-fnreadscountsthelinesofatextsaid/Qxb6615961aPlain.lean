/- THE PLAIN LAW of 'FnReadsCountsTheLinesOfAText': no Go in sight: how many breaks the text of some runes holds. -/
import Derived.Test.Qxb6615961aCalls
namespace Go.Proofs.Qxb6615961a
def brkAt (l : List Int) : Int := brk3 l.length (l.getD 0 0) (l.getD 1 0) (l.getD 2 0)
/-- how many breaks Line counts, 's' bytes being skipped first -/
def lc : Nat → List Int → Nat
  | _, [] => 0
  | s + 1, _ :: t => lc s t
  | 0, a :: t => if 0 < brkAt (a :: t) then 1 + lc ((brkAt (a :: t)).toNat - 1) t else lc 0 t
theorem lc_skip (t : List Int) (s : Nat) : lc s t = lc 0 (t.drop s) := by
  induction t generalizing s with
  | nil => cases s <;> simp [lc]
  | cons a t ih =>
    cases s with
    | zero => simp
    | succ s => simp only [lc, List.drop_succ_cons]; exact ih s
theorem lc_le (t : List Int) (s : Nat) : lc s t ≤ t.length := by
  induction t generalizing s with
  | nil => cases s <;> simp [lc]
  | cons a t ih =>
    cases s with
    | zero =>
      simp only [lc, List.length_cons]
      split
      · have := ih ((brkAt (a :: t)).toNat - 1); omega
      · have := ih 0; omega
    | succ s => simp only [lc, List.length_cons]; have := ih s; omega
theorem brk3_range (m : Nat) (a0 a1 a2 : Int) (hm : 0 < m) : 0 ≤ brk3 m a0 a1 a2 ∧ brk3 m a0 a1 a2 ≤ m ∧ brk3 m a0 a1 a2 ≤ 3 := by
  unfold brk3
  repeat' split
  all_goals omega
theorem lc_drop (l : List Int) (k : Nat) (h : k < l.length) :
    lc 0 (l.drop k) = if 0 < brkAt (l.drop k) then 1 + lc 0 (l.drop (k + (brkAt (l.drop k)).toNat)) else lc 0 (l.drop (k + 1)) := by
  rw [List.drop_eq_getElem_cons h]
  rw [lc]
  split
  · rename_i hb
    rw [lc_skip, List.drop_drop]
    have : k + 1 + ((brkAt (l[k] :: l.drop (k + 1))).toNat - 1) = k + (brkAt (l[k] :: l.drop (k + 1))).toNat := by omega
    rw [this]
  · rfl
theorem brkAt_drop (l : List Int) (k : Nat) : brkAt (l.drop k) = brk3 (l.length - k) (l.getD k 0) (l.getD (k + 1) 0) (l.getD (k + 2) 0) := by
  simp [brkAt, List.getD]
/-- a byte that opens no break -/
theorem lc_byte (a : Int) (t : List Int) (h0 : a ≠ 10) (h1 : a ≠ 13) (h2 : a ≠ 194) (h3 : a ≠ 226) : lc 0 (a :: t) = lc 0 t := by
  rw [lc]
  rw [if_neg]
  simp [brkAt, brk3, h0, h1, h2, h3]
def brkRune (r : Int) : Bool := r == 133 || r == 8232 || r == 8233
def inR (r : Int) : Bool := decide (128 ≤ r) && decide (r ≤ 1114111)
theorem encL_len (r : Int) : 2 ≤ (encL r).length ∧ (encL r).length ≤ 4 := by
  unfold encL; repeat' split
  all_goals simp
theorem lc_enc (r : Int) (t : List Int) (h0 : 128 ≤ r) (h1 : r ≤ 1114111) : lc 0 (encL r ++ t) = (if brkRune r = true then 1 else 0) + lc 0 t := by
  unfold encL
  split
  · rename_i h2
    by_cases h3 : r = 133
    · subst h3; simp [lc, brkAt, brk3, brkRune]
    · have e : brkRune r = false := by simp [brkRune]; omega
      have hb : ¬ 0 < brkAt ((192 + r / 64) :: (128 + r % 64) :: t) := by
        simp only [brkAt, brk3, List.getD_cons_zero, List.getD_cons_succ]
        repeat' split
        all_goals omega
      simp only [List.cons_append, List.nil_append, e]
      rw [lc, if_neg hb, lc_byte _ _ (by omega) (by omega) (by omega) (by omega)]
      simp
  · split
    · rename_i h2 h3
      by_cases h4 : r = 8232 ∨ r = 8233
      · rcases h4 with rfl | rfl <;> simp [lc, brkAt, brk3, brkRune]
      · have e : brkRune r = false := by simp [brkRune]; omega
        have hb : ¬ 0 < brkAt ((224 + r / 4096) :: (128 + r / 64 % 64) :: (128 + r % 64) :: t) := by
          simp only [brkAt, brk3, List.getD_cons_zero, List.getD_cons_succ]
          repeat' split
          all_goals omega
        simp only [List.cons_append, List.nil_append, e]
        rw [lc, if_neg hb, lc_byte _ _ (by omega) (by omega) (by omega) (by omega), lc_byte _ _ (by omega) (by omega) (by omega) (by omega)]
        simp
    · rename_i h2 h3
      have e : brkRune r = false := by simp [brkRune]; omega
      simp only [List.cons_append, List.nil_append, e]
      rw [lc_byte _ _ (by omega) (by omega) (by omega) (by omega), lc_byte _ _ (by omega) (by omega) (by omega) (by omega), lc_byte _ _ (by omega) (by omega) (by omega) (by omega), lc_byte _ _ (by omega) (by omega) (by omega) (by omega)]
      simp
/-- the text of some runes -/
def txt (zs : List Int) : List Int := (zs.filter inR).flatMap encL
/-- how many of them are refused -/
def ref (zs : List Int) : Nat := ((zs.filter inR).filter brkRune).length
theorem lc_txt (zs : List Int) : lc 0 (txt zs) = ref zs := by
  unfold txt ref
  induction zs with
  | nil => simp [lc]
  | cons r zs ih =>
    rw [List.filter_cons]
    split
    · rename_i h
      simp [inR] at h
      rw [List.flatMap_cons, lc_enc r _ h.1 h.2, ih, List.filter_cons]
      split <;> simp
      omega
    · exact ih
theorem txt_snoc (zs : List Int) (r : Int) (h : inR r = true) : txt (zs ++ [r]) = txt zs ++ encL r := by
  simp [txt, List.filter_append, h]
theorem txt_skip (zs : List Int) (r : Int) (h : inR r = false) : txt (zs ++ [r]) = txt zs := by
  simp [txt, List.filter_append, h]
theorem ref_snoc (zs : List Int) (r : Int) (h : inR r = true) : ref (zs ++ [r]) = ref zs + if brkRune r = true then 1 else 0 := by
  simp [ref, List.filter_append, h, List.filter_cons]
  split <;> simp
theorem ref_skip (zs : List Int) (r : Int) (h : inR r = false) : ref (zs ++ [r]) = ref zs := by
  simp [ref, List.filter_append, h]
theorem txt_le (zs : List Int) : (txt zs).length ≤ 4 * zs.length := by
  unfold txt
  induction zs with
  | nil => simp
  | cons r zs ih =>
    rw [List.filter_cons]
    split
    · rw [List.flatMap_cons, List.length_append]; have := (encL_len r).2; simp only [List.length_cons]; omega
    · simp only [List.length_cons]; omega
theorem ref_le (zs : List Int) : ref zs ≤ zs.length := by
  unfold ref
  exact Nat.le_trans (List.length_filter_le _ _) (List.length_filter_le _ _)
end Go.Proofs.Qxb6615961a
