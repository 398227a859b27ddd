/- The contract of zzModelTraceparent (5), whole: it accepts what ParseTraceparent accepts. -/
import Derived.Test.Qxb6614691aFmtModD
namespace Go.Proofs.Qxb6614691aFmt
open Go.RowKit
theorem hexv_zero (c : Int) : hexv c = 0 ↔ c = 48 := by
  unfold hexv
  repeat' split
  all_goals omega
theorem pair_zero {s : ByteArray} {i : Nat} (h0 : goodAt s i) (h1 : goodAt s (i + 1)) : pair s i = 0 ↔ byt s i = 48 ∧ byt s (i + 1) = 48 := by
  unfold goodAt at h0 h1
  rw [← hexv_zero, ← hexv_zero]
  unfold pair
  omega
theorem okAt_of_valid {s : ByteArray} (h : Valid s) (j : Nat) (hj : j < 55) : okAt s j := by
  refine ⟨?_, fun hn => ?_⟩
  · rintro (rfl | rfl | rfl)
    · exact h.sep.1
    · exact h.sep.2.1
    · exact h.sep.2.2
  · by_cases h0 : j = 0
    · subst h0; exact h.ver.1
    by_cases h1 : j = 1
    · subst h1; exact h.ver.2
    by_cases h2 : j < 35
    · have := h.tr (j - 3) (by omega)
      rwa [show 3 + (j - 3) = j by omega] at this
    by_cases h3 : j < 52
    · have := h.sp (j - 36) (by omega)
      rwa [show 36 + (j - 36) = j by omega] at this
    by_cases h4 : j = 53
    · subst h4; exact h.fl.1
    · obtain rfl : j = 54 := by omega
      exact h.fl.2
theorem nz_pairs {s : ByteArray} {a n : Nat} (hg : ∀ j, j < 2 * n → goodAt s (a + j)) : (∃ j, j < n ∧ pair s (a + 2 * j) ≠ 0) ↔ ∃ j, a ≤ j ∧ j < a + 2 * n ∧ byt s j ≠ 48 := by
  constructor
  · rintro ⟨j, hj, hp⟩
    by_cases h1 : byt s (a + 2 * j) = 48
    · refine ⟨a + 2 * j + 1, by omega, by omega, fun h2 => hp ?_⟩
      exact (pair_zero (hg (2 * j) (by omega)) (hg (2 * j + 1) (by omega))).2 ⟨h1, h2⟩
    · exact ⟨a + 2 * j, by omega, by omega, h1⟩
  · rintro ⟨j, h1, h2, h3⟩
    refine ⟨(j - a) / 2, by omega, fun hp => h3 ?_⟩
    have hq := (pair_zero (hg (2 * ((j - a) / 2)) (by omega)) (hg (2 * ((j - a) / 2) + 1) (by omega))).1 hp
    by_cases he : a + 2 * ((j - a) / 2) = j
    · rw [← he]; exact hq.1
    · have he' : a + 2 * ((j - a) / 2) + 1 = j := by omega
      rw [← he']; exact hq.2
theorem valid_of {s : ByteArray} (h55 : 55 ≤ s.size) (hok : ∀ j, j < 55 → okAt s j) (hff : pair s 0 ≠ 255) (hz0 : pair s 0 = 0 → s.size = 55) (htl : 55 < s.size → byt s 55 = 45)
    (hnz : (∃ j, 3 ≤ j ∧ j < 35 ∧ byt s j ≠ 48) ∧ ∃ j, 36 ≤ j ∧ j < 52 ∧ byt s j ≠ 48) : Valid s := by
  have htr : ∀ j, j < 2 * 16 → goodAt s (3 + j) := fun j hj => (hok (3 + j) (by omega)).2 (by omega)
  have hsp : ∀ j, j < 2 * 8 → goodAt s (36 + j) := fun j hj => (hok (36 + j) (by omega)).2 (by omega)
  exact ⟨h55, ⟨(hok 0 (by omega)).2 (by omega), (hok 1 (by omega)).2 (by omega)⟩, hff, hz0, htl,
    ⟨(hok 2 (by omega)).1 (by omega), (hok 35 (by omega)).1 (by omega), (hok 52 (by omega)).1 (by omega)⟩, htr, (nz_pairs htr).2 hnz.1, hsp, (nz_pairs hsp).2 hnz.2,
    ⟨(hok 53 (by omega)).2 (by omega), (hok 54 (by omega)).2 (by omega)⟩⟩
theorem model_yes (s : ByteArray) (w : World) (hlen : s.size ≤ 200000) (h : Valid s) :
    Calls Tryf.prog 5 #[.string s] w fun e w' => e = .returned (.tuple #[.bool true, .agg (trL s).toArray, .agg (spL s).toArray, flV s]) ∧ Below w.heap.size w w' :=
  model_ok s w h.len hlen (okAt_of_valid h) h.ff h.zero h.tail ⟨(nz_pairs (n := 16) h.tr).1 h.trn, (nz_pairs (n := 8) h.sp).1 h.spn⟩
theorem first_bad {p : Nat → Prop} : ∀ n, (∀ j, j < n → p j) ∨ ∃ m, m < n ∧ ¬ p m ∧ ∀ j, j < m → p j
  | 0 => .inl fun j hj => by omega
  | n + 1 => by
    rcases first_bad n with h | ⟨m, h1, h2, h3⟩
    · by_cases hp : p n
      · left
        intro j hj
        by_cases e : j = n
        · rw [e]; exact hp
        · exact h j (by omega)
      · exact .inr ⟨n, by omega, hp, h⟩
    · exact .inr ⟨m, by omega, h2, h3⟩
theorem model_no (s : ByteArray) (w : World) (hlen : s.size ≤ 200000) (h : ¬ Valid s) :
    Calls Tryf.prog 5 #[.string s] w fun e w' => e = .returned (.tuple #[.bool false, .agg zero16, .agg zero8, .int .u8 0]) ∧ Below w.heap.size w w' := by
  by_cases h55 : s.size < 55
  · exact model_short s w h55
  rcases first_bad (p := okAt s) 55 with hok | ⟨m, hm, hbad, hok⟩
  · by_cases hff : pair s 0 = 255
    · exact model_ff s w (by omega) hlen hok hff
    by_cases hz : pair s 0 = 0
    · by_cases hn : s.size = 55
      · refine model_zeros s w (by omega) hlen hok hff (fun _ => hn) (fun hl => by omega) fun hnz => h ?_
        exact valid_of (by omega) hok hff (fun _ => hn) (fun hl => by omega) hnz
      · exact model_zero s w (by omega) hlen hok hff hz hn
    · by_cases ht : 55 < s.size → byt s 55 = 45
      · refine model_zeros s w (by omega) hlen hok hff (fun e => absurd e hz) ht fun hnz => h ?_
        exact valid_of (by omega) hok hff (fun e => absurd e hz) ht hnz
      · by_cases hl : 55 < s.size
        · exact model_tail s w (by omega) hlen hok hff hz hl fun e => ht fun _ => e
        · exact absurd (fun h => absurd h hl) ht
  · exact model_loop s w (by omega) hlen m hm hbad hok
/-- the second text: s (55 bytes) and a dash and a tail -/
theorem valid_longer {s t : ByteArray} (hs : s.size = 55) (ht : 56 ≤ t.size) (hb : ∀ j, j < 55 → byt t j = byt s j) (h55 : byt t 55 = 45) : Valid t ↔ Valid s ∧ ¬ (byt s 0 = 48 ∧ byt s 1 = 48) := by
  have hg : ∀ j, j < 55 → (goodAt t j ↔ goodAt s j) := fun j hj => by unfold goodAt; rw [hb j hj]
  have hp : ∀ j, j < 54 → pair t j = pair s j := fun j hj => by unfold pair; rw [hb j (by omega), hb (j + 1) (by omega)]
  constructor
  · intro h
    refine ⟨⟨by omega, ⟨(hg 0 (by omega)).1 h.ver.1, (hg 1 (by omega)).1 h.ver.2⟩, by rw [← hp 0 (by omega)]; exact h.ff, fun _ => hs, fun h => by omega, ?_, fun j hj => (hg _ (by omega)).1 (h.tr j hj), ?_, fun j hj => (hg _ (by omega)).1 (h.sp j hj), ?_, ⟨(hg 53 (by omega)).1 h.fl.1, (hg 54 (by omega)).1 h.fl.2⟩⟩, ?_⟩
    · have := h.sep; rwa [hb 2 (by omega), hb 35 (by omega), hb 52 (by omega)] at this
    · obtain ⟨j, hj, hn⟩ := h.trn; exact ⟨j, hj, by rw [← hp _ (by omega)]; exact hn⟩
    · obtain ⟨j, hj, hn⟩ := h.spn; exact ⟨j, hj, by rw [← hp _ (by omega)]; exact hn⟩
    · intro hz
      have h0 : pair t 0 = 0 := by rw [hp 0 (by omega)]; exact (pair_zero ((hg 0 (by omega)).1 h.ver.1) ((hg 1 (by omega)).1 h.ver.2)).2 hz
      have := h.zero h0
      omega
  · rintro ⟨h, hz⟩
    refine ⟨by omega, ⟨(hg 0 (by omega)).2 h.ver.1, (hg 1 (by omega)).2 h.ver.2⟩, by rw [hp 0 (by omega)]; exact h.ff, ?_, fun _ => h55, ?_, fun j hj => (hg _ (by omega)).2 (h.tr j hj), ?_, fun j hj => (hg _ (by omega)).2 (h.sp j hj), ?_, ⟨(hg 53 (by omega)).2 h.fl.1, (hg 54 (by omega)).2 h.fl.2⟩⟩
    · intro h0
      rw [hp 0 (by omega)] at h0
      exact absurd ((pair_zero h.ver.1 h.ver.2).1 h0) hz
    · have := h.sep; rwa [hb 2 (by omega), hb 35 (by omega), hb 52 (by omega)]
    · obtain ⟨j, hj, hn⟩ := h.trn; exact ⟨j, hj, by rw [hp _ (by omega)]; exact hn⟩
    · obtain ⟨j, hj, hn⟩ := h.spn; exact ⟨j, hj, by rw [hp _ (by omega)]; exact hn⟩
theorem ctx_longer {s t : ByteArray} (hb : ∀ j, j < 55 → byt t j = byt s j) : ctxOf t = ctxOf s := by
  have hp : ∀ j, j < 54 → pair t j = pair s j := fun j hj => by unfold pair; rw [hb j (by omega), hb (j + 1) (by omega)]
  have h1 : trL t = trL s := by unfold trL; apply List.map_congr_left; intro k hk; rw [hp _ (by have := List.mem_range.1 hk; omega)]
  have h2 : spL t = spL s := by unfold spL; apply List.map_congr_left; intro k hk; rw [hp _ (by have := List.mem_range.1 hk; omega)]
  unfold ctxOf flV
  rw [h1, h2, hp 53 (by omega)]
end Go.Proofs.Qxb6614691aFmt
