/- The plain law: what the fold gathers; the strings are a sorted set. -/
import Derived.Test.Qxb6614485aRule
namespace Go.Proofs.Qxb6614485a
theorem step_inv {s : KS} {c : Int × Int × Int} (h : s.fs.length = s.vs.length ∧ s.kr ≤ s.rd.length) : (s.step c).fs.length = (s.step c).vs.length ∧ (s.step c).kr ≤ (s.step c).rd.length := by
  unfold KS.step
  split
  · simp [KS.read, KS.eq, KS.mark, h.1]
  · split
    · simp [KS.read, KS.role, KS.mark, h.1]
    · simp [KS.read, h.1]; omega
theorem runK_inv (l : List (Int × Int × Int)) : ∀ (s : KS), s.fs.length = s.vs.length ∧ s.kr ≤ s.rd.length → (runK s l).fs.length = (runK s l).vs.length ∧ (runK s l).kr ≤ (runK s l).rd.length := by
  induction l with
  | nil => intro s h; exact h
  | cons c l ih =>
    intro s h
    rw [runK]
    split
    · exact h
    · exact ih _ (step_inv h)
theorem step_len {s : KS} {c : Int × Int × Int} {n : Nat} (h : s.fs.length ≤ n ∧ s.rs.length ≤ n ∧ s.rd.length ≤ n) : (s.step c).fs.length ≤ n + 1 ∧ (s.step c).rs.length ≤ n + 1 ∧ (s.step c).rd.length ≤ n + 1 := by
  unfold KS.step
  split
  · simp [KS.read, KS.eq, KS.mark]; omega
  · split <;> simp [KS.read, KS.role, KS.mark] <;> omega
theorem runK_len (l : List (Int × Int × Int)) : ∀ (s : KS) (n : Nat), s.fs.length ≤ n ∧ s.rs.length ≤ n ∧ s.rd.length ≤ n → (runK s l).fs.length ≤ n + l.length ∧ (runK s l).rs.length ≤ n + l.length ∧ (runK s l).rd.length ≤ n + l.length := by
  induction l with
  | nil => intro s n h; exact h
  | cons c l ih =>
    intro s n h
    rw [runK]
    split
    · simp only [List.length_cons]; omega
    · have := ih _ (n + 1) (step_len (c := c) h)
      simp only [List.length_cons]; omega
theorem compact_upto (d : Array Int) (hs : ∀ i j, i ≤ j → j < d.size → d[i]! ≤ d[j]!) : ∀ m, m ≤ d.size →
    (Lib.compactUpTo d m).Pairwise (· < ·) ∧ (∀ x, x ∈ Lib.compactUpTo d m ↔ ∃ i, i < m ∧ d[i]! = x) := by
  intro m
  induction m with
  | zero => intro _; simp [Lib.compactUpTo]
  | succ m ih =>
    intro hm
    obtain ⟨h1, h2⟩ := ih (by omega)
    rw [Lib.compactUpTo_succ]
    by_cases hk : Lib.keeps d m = true
    · rw [if_pos hk]
      have hlt : ∀ x ∈ Lib.compactUpTo d m, x < d[m]! := by
        intro x hx
        obtain ⟨i, hi, rfl⟩ := (h2 x).1 hx
        have hle := hs i (m - 1) (by omega) (by omega)
        have hle2 := hs (m - 1) m (by omega) (by omega)
        have hne : d[m]! ≠ d[m - 1]! := by
          have : m ≠ 0 := by omega
          simpa [Lib.keeps, this] using hk
        omega
      refine ⟨List.pairwise_append.2 ⟨h1, List.pairwise_singleton _ _, fun a ha b hb => ?_⟩, fun x => ?_⟩
      · rw [List.mem_singleton] at hb
        subst hb
        exact hlt a ha
      · rw [List.mem_append, List.mem_singleton, h2]
        constructor
        · rintro (⟨i, hi, h⟩ | h)
          · exact ⟨i, by omega, h⟩
          · exact ⟨m, by omega, h.symm⟩
        · rintro ⟨i, hi, h⟩
          by_cases him : i = m
          · subst him; exact .inr h.symm
          · exact .inl ⟨i, by omega, h⟩
    · rw [if_neg hk, List.append_nil]
      have hm0 : m ≠ 0 := by
        rintro rfl
        simp [Lib.keeps] at hk
      have he : d[m]! = d[m - 1]! := by
        simpa [Lib.keeps, hm0] using hk
      refine ⟨h1, fun x => ?_⟩
      rw [h2]
      constructor
      · rintro ⟨i, hi, h⟩; exact ⟨i, by omega, h⟩
      · rintro ⟨i, hi, h⟩
        by_cases him : i = m
        · subst him; exact ⟨i - 1, by omega, by rw [← he]; exact h⟩
        · exact ⟨i, by omega, h⟩
theorem sorted_pair (zs : List Int) : (sorted zs).Pairwise (· ≤ ·) := by
  have := List.pairwise_mergeSort (le := fun x y : Int => decide (x ≤ y)) (fun a b c h1 h2 => by simp at *; omega) (fun a b => by simp; omega) zs
  exact this.imp (fun h => by simpa using h)
theorem sorted_mem (zs : List Int) (x : Int) : x ∈ sorted zs ↔ x ∈ zs := List.mem_mergeSort
theorem strs_set (s : KS) : (strs s).Pairwise (· < ·) ∧ ∀ x, x ∈ strs s ↔ x ∈ s.rd.take s.kr := by
  have hs : ∀ i j, i ≤ j → j < (sorted (s.rd.take s.kr)).toArray.size → (sorted (s.rd.take s.kr)).toArray[i]! ≤ (sorted (s.rd.take s.kr)).toArray[j]! := by
    intro i j hij hj
    have hj' : j < (sorted (s.rd.take s.kr)).length := by simpa using hj
    by_cases he : i = j
    · subst he; exact Int.le_refl _
    · have := (List.pairwise_iff_getElem.1 (sorted_pair (s.rd.take s.kr))) i j (by omega) hj' (by omega)
      rw [getElem!_pos _ i (by simpa using (by omega : i < (sorted (s.rd.take s.kr)).length)), getElem!_pos _ j hj]
      simpa using this
  obtain ⟨h1, h2⟩ := compact_upto _ hs (sorted (s.rd.take s.kr)).length (by simp)
  refine ⟨h1, fun x => ?_⟩
  rw [← sorted_mem (s.rd.take s.kr), show strs s = Lib.compactUpTo (sorted (s.rd.take s.kr)).toArray (sorted (s.rd.take s.kr)).length from rfl, h2, List.mem_iff_getElem]
  constructor
  · rintro ⟨i, hi, h⟩
    rw [getElem!_pos _ i (by simpa using hi)] at h
    exact ⟨i, hi, by simpa using h⟩
  · rintro ⟨i, hi, h⟩
    refine ⟨i, hi, ?_⟩
    rw [getElem!_pos _ i (by simpa using hi)]
    simpa using h
end Go.Proofs.Qxb6614485a
