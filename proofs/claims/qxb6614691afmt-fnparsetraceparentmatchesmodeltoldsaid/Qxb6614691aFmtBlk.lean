/- The decoders' contracts, by whole blocks. -/
import Derived.Test.Qxb6614691aFmtId
namespace Go.Proofs.Qxb6614691aFmt
open Go.RowKit Go.Extern.Stop Go.Stop Go.Extern
theorem owns_block {w : World} {base T B N : Nat} {xs : List Value} (h : w.ownsRow base T 1 (.slice (some ⟨B, 0, none⟩) N N) N xs) : w.heap[B]? = some (.cells xs.toArray T (0, 0)) := by
  rcases h.2 with ⟨h', _⟩ | ⟨g, cap, cur, h', _, hg, _, _, hcs, htake⟩
  · simp at h'
  · simp only [Value.slice.injEq, Option.some.injEq, Addr.mk.injEq, and_true, true_and] at h'
    obtain ⟨rfl, rfl⟩ := h'
    have e : cur = xs.toArray := by
      rw [← htake, List.take_of_length_le (by simp; omega)]
    rw [hg, e]
theorem owns_of_block {w : World} {T B N : Nat} {xs : List Value} (h : w.heap[B]? = some (.cells xs.toArray T (0, 0))) (hl : xs.length = N) (hN : N ≤ 1000) :
    w.ownsRow B T 1 (.slice (some ⟨B, 0, none⟩) N N) N xs :=
  ⟨by omega, Or.inr ⟨B, N, xs.toArray, rfl, Nat.le_refl _, h, Nat.le_refl _, by unfold maxLen; omega, by simp [hl], List.take_of_length_le (by simp; omega)⟩⟩
/-- the bytes that the digits of s spell -/
def vals (s : ByteArray) (n : Nat) : List Value := (List.range n).map fun k => .int .u8 (pair s (2 * k))
def splice (xs : List Value) (off : Nat) (vs : List Value) : List Value := xs.take off ++ vs ++ xs.drop (off + vs.length)
theorem splice_length (xs : List Value) (off : Nat) (vs : List Value) (h : off + vs.length ≤ xs.length) : (splice xs off vs).length = xs.length := by
  simp [splice]; omega
theorem splice_of {xs xs' : List Value} {s : ByteArray} {off n N : Nat} (hl : xs.length = N) (hl' : xs'.length = N) (hN : off + n ≤ N)
    (h : ∀ j, j < N → xs'[j]? = if off ≤ j ∧ j < off + n then some (.int .u8 (pair s (2 * (j - off)))) else xs[j]?) : xs' = splice xs off (vals s n) := by
  apply List.ext_getElem?
  intro j
  have hvl : (vals s n).length = n := by simp [vals]
  by_cases hj : j < N
  · rw [h j hj, splice, hvl]
    split
    · rename_i hc
      rw [List.getElem?_append_left (by simp; omega), List.getElem?_append_right (by simp; omega)]
      simp only [List.length_take]
      rw [show min off xs.length = off by omega]
      simp [vals, show j - off < n by omega]
    · rename_i hc
      by_cases ho : j < off
      · rw [List.append_assoc, List.getElem?_append_left (by simp; omega)]
        simp [ho]
      · rw [List.getElem?_append_right (by simp; omega)]
        simp only [List.length_append, List.length_take, hvl]
        rw [show min off xs.length = off by omega, List.getElem?_drop]
        congr 1; omega
  · rw [List.getElem?_eq_none (by omega), List.getElem?_eq_none]
    rw [splice_length _ _ _ (by omega)]; omega
theorem hex_yes (s : ByteArray) (T B off n c N : Nat) (xs : List Value) (w : World) (hn : n ≤ 100) (hs : s.size = 2 * n) (hN : off + n ≤ N) (hN2 : N ≤ 1000) (hl : xs.length = N)
    (hb : w.heap[B]? = some (.cells xs.toArray T (0, 0))) (hg : ∀ j, j < 2 * n → goodAt s j) :
    Calls Tryf.prog 11 #[.slice (some ⟨B, off, none⟩) n c, .string s] w fun e w' => e = .returned .nilIface ∧ w.grownBy w' (some B) ∧ w'.heap[B]? = some (.cells (splice xs off (vals s n)).toArray T (0, 0)) := by
  refine (lowerHex_any s B T B off n c N xs w hn hs hN hN2 (owns_of_block hb hl hN2)).mono ?_
  rintro e w' ⟨xs', ho, hgr, h⟩
  rcases h with ⟨_, he, hx⟩ | ⟨⟨j, hj, hbad⟩, _⟩
  · have : xs' = splice xs off (vals s n) := splice_of hl (by have := ho.1; omega) hN hx
    subst this
    exact ⟨he, hgr, owns_block ho⟩
  · exact absurd (hg j hj) hbad
theorem hex_no (s : ByteArray) (T B off n c N : Nat) (xs : List Value) (w : World) (hn : n ≤ 100) (hs : s.size = 2 * n) (hN : off + n ≤ N) (hN2 : N ≤ 1000) (hl : xs.length = N)
    (hb : w.heap[B]? = some (.cells xs.toArray T (0, 0))) (hg : ¬ ∀ j, j < 2 * n → goodAt s j) :
    Calls Tryf.prog 11 #[.slice (some ⟨B, off, none⟩) n c, .string s] w fun e w' => ∃ t a, e = .returned (.iface t (.pointer (some a))) ∧ IsErr w.heap.size w' (.iface t (.pointer (some a))) ∧ w.grownBy w' (some B) := by
  refine (lowerHex_any s B T B off n c N xs w hn hs hN hN2 (owns_of_block hb hl hN2)).mono ?_
  rintro e w' ⟨xs', ho, hgr, h⟩
  rcases h with ⟨h, _⟩ | ⟨_, v, he, hv⟩
  · exact absurd h hg
  · obtain ⟨t, a, rfl⟩ := isErr_ne hv
    exact ⟨t, a, he, hv, hgr⟩
theorem id_yes (s : ByteArray) (T B off n c N : Nat) (xs : List Value) (w : World) (hn : n ≤ 100) (hs : s.size = 2 * n) (hN : off + n ≤ N) (hN2 : N ≤ 1000) (hl : xs.length = N)
    (hb : w.heap[B]? = some (.cells xs.toArray T (0, 0))) (hg : (∀ j, j < 2 * n → goodAt s j) ∧ ∃ j, j < n ∧ pair s (2 * j) ≠ 0) :
    Calls Tryf.prog 13 #[.slice (some ⟨B, off, none⟩) n c, .string s] w fun e w' => e = .returned .nilIface ∧ w.grownBy w' (some B) ∧ w'.heap[B]? = some (.cells (splice xs off (vals s n)).toArray T (0, 0)) := by
  refine (decodeID_any s B T B off n c N xs w hn hs hN hN2 (owns_of_block hb hl hN2)).mono ?_
  rintro e w' ⟨xs', ho, hgr, h⟩
  rcases h with ⟨_, _, he, hx⟩ | ⟨hbad, _⟩
  · have : xs' = splice xs off (vals s n) := splice_of hl (by have := ho.1; omega) hN hx
    subst this
    exact ⟨he, hgr, owns_block ho⟩
  · obtain ⟨h1, k, hk, h2⟩ := hg
    rcases hbad with ⟨j, hj, hb⟩ | hz
    · exact absurd (h1 j hj) hb
    · exact absurd (hz k hk) h2
theorem id_no (s : ByteArray) (T B off n c N : Nat) (xs : List Value) (w : World) (hn : n ≤ 100) (hs : s.size = 2 * n) (hN : off + n ≤ N) (hN2 : N ≤ 1000) (hl : xs.length = N)
    (hb : w.heap[B]? = some (.cells xs.toArray T (0, 0))) (hg : ¬ ((∀ j, j < 2 * n → goodAt s j) ∧ ∃ j, j < n ∧ pair s (2 * j) ≠ 0)) :
    Calls Tryf.prog 13 #[.slice (some ⟨B, off, none⟩) n c, .string s] w fun e w' => ∃ t a, e = .returned (.iface t (.pointer (some a))) ∧ IsErr w.heap.size w' (.iface t (.pointer (some a))) ∧ w.grownBy w' (some B) := by
  refine (decodeID_any s B T B off n c N xs w hn hs hN hN2 (owns_of_block hb hl hN2)).mono ?_
  rintro e w' ⟨xs', ho, hgr, h⟩
  rcases h with ⟨h, h', _⟩ | ⟨_, v, he, hv⟩
  · exact absurd ⟨h, h'⟩ hg
  · obtain ⟨t, a, rfl⟩ := isErr_ne hv
    exact ⟨t, a, he, hv, hgr⟩
theorem byt_extract (s : ByteArray) (a b j : Nat) (hj : j < b - a) : byt (s.extract a b) j = byt s (a + j) := by
  unfold byt
  rw [Go.Lib.extract_data]
  simp [List.getD, hj]
theorem pair_extract (s : ByteArray) (a b j : Nat) (hj : j + 1 < b - a) : pair (s.extract a b) j = pair s (a + j) := by
  unfold pair; rw [byt_extract s a b j (by omega), byt_extract s a b (j + 1) hj]; rfl
theorem good_extract (s : ByteArray) (a b j : Nat) (hj : j < b - a) : goodAt (s.extract a b) j ↔ goodAt s (a + j) := by
  unfold goodAt; rw [byt_extract s a b j hj]
end Go.Proofs.Qxb6614691aFmt
