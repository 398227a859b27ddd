/- permsMatch (11) on what PermissionsForUser gives; the clones; the length of the joined fields. -/
import Derived.Test.Qxb6614485aFmtPmNone
import Derived.Test.Qxb6614485aFmtPlain
import Derived.Lib.Join
namespace Go.Proofs.Qxb6614485aFmt
open Go.RowKit
def snds (qs : List Pr) : List (List ByteArray) := qs.map (·.2)
theorem snds_len (qs : List Pr) : (snds qs).length = qs.length := by simp [snds]
theorem snds_at (qs : List Pr) (i : Nat) (h : i < qs.length) : rowAt (snds qs) i = (pt qs i).2 := by
  simp [rowAt, snds, pt, List.getD, h]
theorem pt_of_mem {qs : List Pr} {q : Pr} (h : q ∈ qs) : ∃ i, i < qs.length ∧ pt qs i = q := by
  obtain ⟨i, hi, rfl⟩ := List.mem_iff_getElem.1 h
  exact ⟨i, hi, by simp [pt, List.getD, hi]⟩
theorem pt_pair {R : Pr → Pr → Prop} {qs : List Pr} (h : qs.Pairwise R) {i j : Nat} (hij : i < j) (hj : j < qs.length) : R (pt qs i) (pt qs j) := by
  have := List.pairwise_iff_getElem.1 h i j (by omega) hj hij
  have h1 : pt qs i = qs[i] := by simp [pt, List.getD, show i < qs.length by omega]
  have h2 : pt qs j = qs[j] := by simp [pt, List.getD, hj]
  rw [h1, h2]; exact this
theorem pm_call (w : World) (vR : Value) (rs : List (List ByteArray)) (blk cap : Nat) (qs : List Pr) (sub width : Nat) (name : ByteArray) (hR : RowsAt w vR rs) (hk : rs.length ≤ 100000) (hw : width ≤ 2000000) (hsw : sub < width)
    (hrw : ∀ i, i < rs.length → (rowAt rs i).length = width) (hblk : blk < w.heap.size) (hql : qs.length ≤ rs.length)
    (hc : ∀ i, i < qs.length → w.cell? ⟨blk, i, none⟩ = some (pt qs i).1 ∧ RowAt w (pt qs i).1 (pt qs i).2) (hp : qs.Pairwise (fun a b => rc a.2 b.2 < 0))
    (hon : ∀ q, q ∈ qs → ∃ i, i < rs.length ∧ ((el (rowAt rs i) sub).toList == name.toList) = true ∧ rowAt rs i = q.2) (hin : ∀ i, i < rs.length → ((el (rowAt rs i) sub).toList == name.toList) = true → ∃ q, q ∈ qs ∧ q.2 = rowAt rs i) :
    Calls Tryf.prog 11 #[.slice (some ⟨blk, 0, none⟩) qs.length cap, vR, .int .i64 sub, .int .i64 width, .string name] w fun e w' => e = .returned (.bool true) ∧ Below w.heap.size w w' := by
  obtain ⟨a, c, rfl, h⟩ := hR
  rcases h with h | ⟨g, o, vf, rfl, hg, hcell⟩
  · have hq : qs.length = 0 := by omega
    rw [h, hq]
    exact pm_none w _ a cap c sub width name
  · have e := snds_len qs
    rw [← e]
    refine pm_some w blk cap g o c (snds qs) rs (fun i => (pt qs i).1) vf sub width name hblk hg (fun i hi => ?_) hcell (by omega) hk hw hsw (fun i hi => ?_) hrw (fun i j hij hj => ?_) (fun i j hij hj => ?_) rc_self (fun j hj he => ?_) (fun p hp0 => ?_)
    · rw [e] at hi
      rw [snds_at qs i hi]
      exact hc i hi
    · rw [e] at hi
      rw [snds_at qs i hi]
      obtain ⟨k, hk0, h1, h2⟩ := hon _ (pt_mem qs i hi)
      rw [← h2]
      exact ⟨hrw k hk0, h1⟩
    · rw [e] at hj
      rw [snds_at qs i (by omega), snds_at qs j hj]
      exact pt_pair hp hij hj
    · rw [e] at hj
      rw [snds_at qs i (by omega), snds_at qs j hj, rc_neg]
      have := pt_pair hp hij hj
      omega
    · obtain ⟨q, hq, h1⟩ := hin j hj he
      obtain ⟨i, hi, rfl⟩ := pt_of_mem hq
      exact ⟨i, by omega, by rw [snds_at qs i hi]; exact h1⟩
    · rw [e] at hp0
      rw [snds_at qs p hp0]
      exact hon _ (pt_mem qs p hp0)
theorem rows_any (v : Value) (rs : List (List ByteArray)) (w : World) (h : RowsAt w v rs) (hb : rs.length ≤ 2000000) (hbr : ∀ i, i < rs.length → (rowAt rs i).length ≤ 2000000) :
    Calls Tryf.prog 6 #[v] w fun e w' => ∃ a c, e = .returned (.slice a rs.length c) ∧ RowsAt w' (.slice a rs.length c) rs ∧ Below w.heap.size w w' := by
  obtain ⟨a, c, rfl, h'⟩ := id h
  cases a with
  | none =>
    have h0 : rs.length = 0 := by
      rcases h' with h | ⟨g, o, vf, h1, _⟩
      · exact h
      · cases h1
    rw [h0]
    exact (rows_nil c w).mono fun e w' ⟨he, hw⟩ => ⟨none, 0, he, ⟨none, 0, by rw [h0], .inl h0⟩, hw ▸ Below.refl _ _⟩
  | some ad =>
    refine (rows_some ad c rs w h hb hbr).mono fun e w' ⟨v', he, hr, hbl⟩ => ?_
    obtain ⟨a', c', rfl, h2⟩ := id hr
    exact ⟨a', c', he, hr, hbl⟩
theorem clone_c (v : Value) (ss : List ByteArray) (w : World) (h : RowAt w v ss) (hb : ss.length ≤ 2000000) :
    Calls Tryf.prog 5 #[v] w fun e w' => ∃ a c, e = .returned (.slice a ss.length c) ∧ RowAt w' (.slice a ss.length c) ss ∧ ss.length ≤ c ∧ Below w.heap.size w w' := by
  obtain ⟨a, c, rfl, h'⟩ := id h
  cases a with
  | none =>
    have h0 : ss.length = 0 := by
      rcases h' with h | ⟨g, o, h1, _⟩
      · exact h
      · cases h1
    rw [h0]
    exact (clone_nil c w).mono fun e w' ⟨he, hw⟩ => ⟨none, 0, he, ⟨none, 0, by rw [h0], .inl h0⟩, Nat.le_refl _, hw ▸ Below.refl _ _⟩
  | some ad =>
    refine (clone_some ad c ss w (fun h0 j x hx => ?_) hb (fun h0 => ?_)).mono fun e w' ⟨he, hr, hbl⟩ => ⟨_, _, he, hr, Nat.le_refl _, hbl⟩
    · rcases h' with h | ⟨g, o, h1, h2, h3⟩
      · omega
      · cases h1
        rw [Addr.add_lit]
        have hj : j < ss.length := by
          have := (List.getElem?_eq_some_iff.1 hx).1
          simpa [strv] using this
        rw [h3 j hj, ← strv_get ss j hj, hx]
    · rcases h' with h | ⟨g, o, h1, h2, h3⟩
      · omega
      · cases h1; exact h2
theorem lens_le (ss : List ByteArray) (n : Nat) (h : ∀ x, x ∈ ss → x.size ≤ n) : Lib.lens (ss.map (·.data.toList)) ≤ ss.length * n := by
  induction ss with
  | nil => simp [Lib.lens]
  | cons x r ih =>
    have h1 := h x (by simp)
    have h2 := ih (fun y hy => h y (by simp [hy]))
    simp only [Lib.lens, List.map_cons, List.length_cons, Nat.add_mul] at h2 ⊢
    simp at h2 ⊢
    have : x.data.size = x.size := rfl
    omega
theorem join_le (ss : List ByteArray) (hl : ss.length ≤ 4096) (h : ∀ j, j < ss.length → (el ss j).size ≤ 1048576) : (Lib.join (ss.map (·.data.toList)) [44, 32]).length ≤ 140737488355328 := by
  have h2 := lens_le ss 1048576 (fun x hx => by
    obtain ⟨i, hi, rfl⟩ := List.mem_iff_getElem.1 hx
    have := h i hi
    simpa [el, List.getD, hi] using this)
  cases ss with
  | nil => simp [Lib.join_nil]
  | cons x r =>
    rw [List.map_cons, Lib.join_length]
    rw [List.map_cons] at h2
    simp only [List.length_cons, List.length_map, List.length_nil] at hl h2 ⊢
    omega
end Go.Proofs.Qxb6614485aFmt
