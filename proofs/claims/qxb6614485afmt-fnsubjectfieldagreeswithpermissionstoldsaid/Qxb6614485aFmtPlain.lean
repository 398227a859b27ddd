/- The plain law of slices.CompactFunc over ascending rows. -/
import Derived.Test.Qxb6614485aFmtEq
namespace Go.Proofs.Qxb6614485aFmt
/-- a row's value and what it reads -/
abbrev Pr := Value × List ByteArray
def pt (ps : List Pr) (i : Nat) : Pr := ps.getD i (.slice none 0 0, [])
theorem pt_get (ps : List Pr) (i : Nat) (h : i < ps.length) : ps[i]? = some (pt ps i) := by simp [pt, List.getD, h]
theorem pt_mem (ps : List Pr) (i : Nat) (h : i < ps.length) : pt ps i ∈ ps := by
  have := pt_get ps i h
  exact List.mem_of_getElem? this
/-- the first m rows, each run of equals once -/
structure Cp (ps : List Pr) (m : Nat) (qs : List Pr) : Prop where
  sub : ∀ q, q ∈ qs → q ∈ ps
  cov : ∀ i, i < m → ∃ q, q ∈ qs ∧ q.2 = (pt ps i).2
  asc : qs.Pairwise (fun a b => rc a.2 b.2 < 0)
  last : ∃ init q, qs = init ++ [q] ∧ q.2 = (pt ps (m - 1)).2
theorem Cp.one {ps : List Pr} (h : 0 < ps.length) : Cp ps 1 (ps.take 1) := by
  have e : ps.take 1 = [pt ps 0] := by
    cases ps with
    | nil => simp at h
    | cons p r => simp [pt]
  rw [e]
  refine ⟨fun q hq => ?_, fun i hi => ⟨pt ps 0, by simp, by rw [show i = 0 by omega]⟩, by simp, ⟨[], pt ps 0, rfl, rfl⟩⟩
  rw [List.mem_singleton.1 hq]
  exact pt_mem ps 0 h
theorem Cp.skip {ps : List Pr} {m : Nat} {qs : List Pr} (h : Cp ps m qs) (he : (pt ps m).2 = (pt ps (m - 1)).2) : Cp ps (m + 1) qs := by
  obtain ⟨init, q, hq, hl⟩ := h.last
  refine ⟨h.sub, fun i hi => ?_, h.asc, ⟨init, q, hq, ?_⟩⟩
  · by_cases him : i = m
    · subst him
      exact ⟨q, by rw [hq]; simp, hl.trans he.symm⟩
    · exact h.cov i (by omega)
  · rw [Nat.add_sub_cancel, he]; exact hl
theorem Cp.take {ps : List Pr} {m : Nat} {qs : List Pr} (h : Cp ps m qs) (hm : m < ps.length) (hlt : rc (pt ps (m - 1)).2 (pt ps m).2 < 0) : Cp ps (m + 1) (qs ++ [pt ps m]) := by
  obtain ⟨init, q, hq, hl⟩ := h.last
  refine ⟨fun x hx => ?_, fun i hi => ?_, ?_, ⟨qs, pt ps m, rfl, by rw [Nat.add_sub_cancel]⟩⟩
  · rcases List.mem_append.1 hx with hx | hx
    · exact h.sub x hx
    · rw [List.mem_singleton.1 hx]; exact pt_mem ps m hm
  · by_cases him : i = m
    · subst him
      exact ⟨pt ps i, by simp, rfl⟩
    · obtain ⟨x, h1, h2⟩ := h.cov i (by omega)
      exact ⟨x, by simp [h1], h2⟩
  · rw [List.pairwise_append]
    refine ⟨h.asc, by simp, fun a ha b hb => ?_⟩
    rw [List.mem_singleton.1 hb]
    rw [← hl] at hlt
    have ha' := h.asc
    rw [hq] at ha ha'
    rcases List.mem_append.1 ha with ha | ha
    · exact rc_trans _ _ _ ((List.pairwise_append.1 ha').2.2 a ha q (by simp)) hlt
    · rw [List.mem_singleton.1 ha]; exact hlt
theorem take_pt (ps : List Pr) (k : Nat) (h : k < ps.length) : ps.take (k + 1) = ps.take k ++ [pt ps k] := by
  rw [List.take_add_one, pt_get ps k h]; rfl
/-- two neighbours, one after the other, unequal -/
theorem lt_of_ne {x y : List ByteArray} (hle : rc x y ≤ 0) (hne : beqR y x = false) : rc x y < 0 := by
  by_cases h : rc x y = 0
  · have e := (rc_zero x y).1 h
    subst e
    rw [(beqR_iff x x).2 rfl] at hne
    cases hne
  · omega
end Go.Proofs.Qxb6614485aFmt
