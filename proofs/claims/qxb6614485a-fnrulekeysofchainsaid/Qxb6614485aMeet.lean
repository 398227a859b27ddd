/- keysMatch (8) on what ruleKeysOf and modelKeys leave. -/
import Derived.Test.Qxb6614485aTop
namespace Go.Proofs.Qxb6614485a
open Go.RowKit
theorem owns_shape {w : World} {b : Nat} {e : TypeId} {size n : Nat} {v : Value} {xs : List Value} (h : w.ownsRow b e size v n xs) :
    ∃ a cap, v = .slice a n cap ∧ ((a = none ∧ n = 0 ∧ cap = 0) ∨ ∃ g, a = some ⟨g, 0, none⟩ ∧ g < w.heap.size ∧ n ≤ cap ∧ cap ≤ maxLen ∧ ∀ j, j < n * size → w.cell? ⟨g, j, none⟩ = xs[j]?) := by
  rcases h.2 with ⟨rfl, rfl⟩ | ⟨g, cap, cur, rfl, h1, h2, h3, h4, _⟩
  · exact ⟨none, 0, rfl, .inl ⟨rfl, rfl, rfl⟩⟩
  · exact ⟨_, cap, rfl, .inr ⟨g, rfl, (Array.getElem?_eq_some_iff.1 h2).1, h3, h4, fun j hj => h.cellAt j hj⟩⟩
theorem opnds_get (l : List Int) : ∀ i, i < l.length → (opnds l)[i * 4]? = some (fieldV false (l.getD i 0)) := by
  induction l with
  | nil => intro i hi; simp at hi
  | cons b l ih =>
    intro i hi
    have e : opnds (b :: l) = (opnd (fieldV false b)).toList ++ opnds l := by simp [opnds]
    rw [e]
    cases i with
    | zero => simp [List.getD]
    | succ i =>
      rw [List.getElem?_append_right (by simp; omega)]
      have := ih i (by simpa using hi)
      simpa [Nat.add_mul, List.getD] using this
theorem ints_get (l : List Int) (i : Nat) (hi : i < l.length) : (ints l)[i]? = some (.int .i64 (l.getD i 0)) := by simp [ints, List.getD, hi]
theorem meet (w : World) (b b' : Nat) (s : KS) (vf vv vr vz mf mv mr md : Value) (cr : List Value) (h1 : s.fs.length = s.vs.length) (h2 : s.kr ≤ s.rd.length) (hl : s.fs.length ≤ 4096 ∧ s.rs.length ≤ 4096 ∧ s.rd.length ≤ 4096)
    (of : w.ownsRow b 3 1 vf s.fs.length (ints s.fs)) (ov : w.ownsRow b 30 4 vv s.vs.length (opnds s.vs)) (or : w.ownsRow b 73 2 vr s.rs.length cr) (rl : ∀ i, i < s.rs.length → cr[2 * i + 1]? = some (.int .i64 (s.rs.getD i 0)))
    (oz : w.ownsRow b 3 1 vz (strs s).length (ints (strs s)))
    (mof : w.ownsRow b' 3 1 mf s.fs.length (ints s.fs)) (mov : w.ownsRow b' 3 1 mv s.vs.length (ints s.vs)) (mor : w.ownsRow b' 3 1 mr s.rs.length (ints s.rs)) (mod : w.ownsRow b' 3 1 md s.rd.length (ints s.rd)) :
    Calls Try.prog 8 #[.agg #[vf, vv, vr, vz], .agg #[mf, mv, mr, md, .int .i64 s.kr]] w fun e w' => e = .returned (.bool true) ∧ Below w.heap.size w w' := by
  obtain ⟨a1, c1, rfl, q1⟩ := owns_shape of
  obtain ⟨a2, c2, rfl, q2⟩ := owns_shape ov
  obtain ⟨a3, c3, rfl, q3⟩ := owns_shape or
  obtain ⟨a4, c4, rfl, q4⟩ := owns_shape mof
  obtain ⟨a5, c5, rfl, q5⟩ := owns_shape mov
  obtain ⟨a6, c6, rfl, q6⟩ := owns_shape mor
  obtain ⟨a7, c7, rfl, q7⟩ := owns_shape mod
  obtain ⟨a8, c8, rfl, q8⟩ := owns_shape oz
  obtain ⟨z1, z2⟩ := strs_set s
  rw [← h1] at q2 q5 ⊢
  refine match_any w s.fs.length s.rs.length s.rd.length s.kr c1 c4 c2 c5 c3 c6 c7 a1 a4 a2 a5 a3 a6 a7 _ (fun i => s.fs.getD i 0) (fun i => s.vs.getD i 0) (fun i => s.rs.getD i 0) (by omega) (by omega) ?_ ?_ ?_ ?_
  · intro i hi
    rcases q1 with ⟨_, h, _⟩ | ⟨g, e1, e2, _, _, e3⟩
    · omega
    rcases q4 with ⟨_, h, _⟩ | ⟨g', e1', e2', _, _, e3'⟩
    · omega
    exact ⟨g, g', e1, e1', e2, e2', by rw [e3 i (by omega)]; exact ints_get _ _ hi, by rw [e3' i (by omega)]; exact ints_get _ _ hi⟩
  · intro i hi
    rcases q2 with ⟨_, h, _⟩ | ⟨g, e1, e2, _, _, e3⟩
    · omega
    rcases q5 with ⟨_, h, _⟩ | ⟨g', e1', e2', _, _, e3'⟩
    · omega
    exact ⟨g, g', e1, e1', e2, e2', by rw [e3 (i * 4) (by omega)]; exact opnds_get _ _ (by omega), by rw [e3' i (by omega)]; exact ints_get _ _ (by omega)⟩
  · intro i hi
    rcases q3 with ⟨_, h, _⟩ | ⟨g, e1, e2, _, _, e3⟩
    · omega
    rcases q6 with ⟨_, h, _⟩ | ⟨g', e1', e2', _, _, e3'⟩
    · omega
    exact ⟨g, g', e1, e1', e2, e2', by rw [e3 (i * 2 + 1) (by omega), show i * 2 + 1 = 2 * i + 1 by omega]; exact rl i hi, by rw [e3' i (by omega)]; exact ints_get _ _ hi⟩
  · have hnil : s.kr = 0 → (strs s).length = 0 := fun h => by rw [strs_nil s h]; rfl
    have hset0 : s.kr = 0 → ∀ (a : Option Addr) (c : Nat) w', Below w.heap.size w w' → Calls Try.prog 22 #[.slice a8 (strs s).length c8, .slice a 0 c] w' fun e w'' => e = .returned (.bool true) ∧ Below w'.heap.size w' w'' := fun h a c w' _ => by
      rw [hnil h]; exact set_none w' a8 c8 a c
    rcases q7 with ⟨e1, e2, e3⟩ | ⟨g, e1, e2, e3, e4, e5⟩
    · exact .inl ⟨e1, e2, e3, by omega, hset0 (by omega) none 0⟩
    · refine .inr ⟨g, e1, e3, h2, e4, ?_⟩
      by_cases hk : s.kr = 0
      · have := hset0 hk (some ⟨g, 0, none⟩) c7
        rw [hk]
        exact this
      · intro w' hb
        have hzp : 0 < (strs s).length := by
          have h0 : s.rd[0]'(by omega) ∈ strs s := (z2 _).2 (List.mem_iff_getElem.2 ⟨0, by simp; omega, by simp⟩)
          exact List.length_pos_of_mem h0
        rcases q8 with ⟨_, h, _⟩ | ⟨g8, f1, f2, f3, f4, f5⟩
        · omega
        subst f1
        have hzl : (strs s).length ≤ 4096 := by
          have h3 : (strs s).length ≤ (sorted (s.rd.take s.kr)).length := Lib.compact_length_le _
          rw [sorted_len, take_len s h2] at h3
          omega
        refine set_some w' g8 c8 g c7 (strs s).length s.kr (fun i => (strs s).getD i 0) (fun i => s.rd.getD i 0) ?_ ?_ ?_ ?_ (by omega) (by omega) hzp ?_ ?_ ?_
        · intro i hi
          rw [hb.cell (p := ⟨g8, i, none⟩) f2, f5 i (by omega)]
          exact ints_get _ _ hi
        · intro i hi
          rw [hb.cell (p := ⟨g, i, none⟩) e2, e5 i (by omega)]
          exact ints_get _ _ (by omega)
        · have := hb.size; omega
        · have := hb.size; omega
        · intro i j hij hj
          have := List.pairwise_iff_getElem.1 z1 i j (by omega) hj hij
          simpa [List.getD, show i < (strs s).length by omega, hj] using this
        · intro j hj
          have hm : s.rd[j]'(by omega) ∈ strs s := (z2 _).2 (List.mem_iff_getElem.2 ⟨j, by simp; omega, by simp⟩)
          obtain ⟨p, hp, he⟩ := List.mem_iff_getElem.1 hm
          exact ⟨p, hp, by simp [List.getD, hp, he, show j < s.rd.length by omega]⟩
        · intro p hp
          have hm : (strs s)[p] ∈ s.rd.take s.kr := (z2 _).1 (List.getElem_mem hp)
          obtain ⟨j, hj, he⟩ := List.mem_iff_getElem.1 hm
          have hj' : j < s.kr := by simp at hj; omega
          refine ⟨j, hj', ?_⟩
          simp at he
          simp [List.getD, hp, show j < s.rd.length by omega, he]
end Go.Proofs.Qxb6614485a
