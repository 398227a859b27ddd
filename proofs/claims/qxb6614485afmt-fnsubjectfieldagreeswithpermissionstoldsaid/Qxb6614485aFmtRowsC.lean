/- cloneRows (6), firstIndex (7). -/
import Derived.Test.Qxb6614485aFmtClone
namespace Go.Proofs.Qxb6614485aFmt
open Go.RowKit
attribute [local go_sem] eqn22 eqs22 eqn23 eqs23
def rowAt (l : List (List ByteArray)) (i : Nat) : List ByteArray := l.getD i []
/-- a slice of rows that reads rs -/
def RowsAt (w : World) (v : Value) (rs : List (List ByteArray)) : Prop :=
  ∃ a c, v = .slice a rs.length c ∧ (rs.length = 0 ∨ ∃ g o, ∃ vf : Nat → Value, a = some ⟨g, o, none⟩ ∧ g < w.heap.size ∧ ∀ i, i < rs.length → w.cell? ⟨g, o + i, none⟩ = some (vf i) ∧ RowAt w (vf i) (rowAt rs i))
theorem RowsAt.keep {w w' : World} {v : Value} {rs : List (List ByteArray)} (h : RowsAt w v rs) (hb : Below w.heap.size w w') : RowsAt w' v rs := by
  obtain ⟨a, c, rfl, h⟩ := h
  refine ⟨a, c, rfl, h.imp id ?_⟩
  rintro ⟨g, o, vf, h1, h2, h3⟩
  exact ⟨g, o, vf, h1, Nat.lt_of_lt_of_le h2 hb.size, fun i hi => ⟨(hb.cell (p := ⟨g, o + i, none⟩) h2).trans (h3 i hi).1, (h3 i hi).2.keep hb⟩⟩
theorem RowAt.setCell {w : World} {v u x : Value} {ss : List ByteArray} {g k : Nat} (h : RowAt w v ss) (hx : w.cell? ⟨g, k, none⟩ = some x) (hn : ∀ s, x ≠ .string s) : RowAt (w.setCell ⟨g, k, none⟩ u) v ss := by
  obtain ⟨a, c, rfl, h⟩ := h
  refine ⟨a, c, rfl, h.imp id ?_⟩
  rintro ⟨g', o, h1, h2, h3⟩
  refine ⟨g', o, h1, by simpa using h2, fun i hi => ?_⟩
  have hne : (⟨g, k, none⟩ : Addr) ≠ ⟨g', o + i, none⟩ := fun e => by
    rw [e, h3 i hi] at hx
    simp only [Option.some.injEq] at hx
    exact hn _ hx.symm
  rw [World.cell?_setCell_other _ _ _ _ hne]
  exact h3 i hi
theorem RowAt.form {w : World} {v : Value} {ss : List ByteArray} (h : RowAt w v ss) : ∃ a n c, v = .slice a n c := by
  obtain ⟨a, c, rfl, _⟩ := h
  exact ⟨a, _, c, rfl⟩
theorem Tryf.info22 : (Tryf.prog.info? 22).map (fun i => (i.zero, i.size, i.bytes)) = some (some (.slice none 0 0), 1, 24) := by kernel_rfl
/-- what the loop knows -/
structure RC (w wr : World) (g n k : Nat) (rs : List (List ByteArray)) (xs : List Value) : Prop where
  own : wr.ownsRow w.heap.size 22 1 (.slice (some ⟨g, 0, none⟩) n n) n xs
  done : ∀ i, i < k → ∃ u, xs[i]? = some u ∧ RowAt wr u (rowAt rs i)
  todo : ∀ i, k ≤ i → i < n → xs[i]? = some (.slice none 0 0)
  below : Below w.heap.size w wr
theorem RC.next {w wr w1 : World} {g n k : Nat} {rs : List (List ByteArray)} {xs : List Value} {u : Value} (h : RC w wr g n k rs xs) (hk : k < n) (hu : RowAt w1 u (rowAt rs k)) (hb : Below wr.heap.size wr w1) : RC w (w1.setCell ⟨g, k, none⟩ u) g n (k + 1) rs (xs.set k u) := by
  have hlt := h.own.lt g rfl
  have hz := h.below.size
  have hg1 : wr.grownBy w1 none := ⟨hb.os, hb.tape, hb.output, hb.size, fun j hj _ => hb.block j hj⟩
  have ho1 : w1.ownsRow w.heap.size 22 1 (.slice (some ⟨g, 0, none⟩) n n) n xs := h.own.kept hg1 (.inr (by simp [Value.ownBlock]))
  have hc : w1.cell? ⟨g, k, none⟩ = some (.slice none 0 0) := by rw [ho1.cellAt k (by omega)]; exact h.todo k (Nat.le_refl _) hk
  have hxl : xs.length = n := by have := h.own.1; omega
  refine ⟨(ho1.stored k u).1, fun i hi => ?_, fun i hi hin => ?_, (h.below.trans (hb.mono hz)).setCell hlt.1 _⟩
  · by_cases hik : i = k
    · subst hik
      exact ⟨u, by simp [hxl, hk], hu.setCell hc (by simp)⟩
    · obtain ⟨y, hy, hr⟩ := h.done i (by omega)
      exact ⟨y, by rw [List.getElem?_set_ne (by omega)]; exact hy, (hr.keep hb).setCell hc (by simp)⟩
  · rw [List.getElem?_set_ne (by omega)]
    exact h.todo i (by omega) hin
theorem own2 {w wr w1 : World} {g n k : Nat} {rs : List (List ByteArray)} {xs : List Value} (h : RC w wr g n k rs xs) (hk : k < n) (hb : Below wr.heap.size wr w1) : w1.cell? ⟨g, k, none⟩ = some (.slice none 0 0) ∧ w1.frozen? ⟨g, k, none⟩ = false := by
  have hg1 : wr.grownBy w1 none := ⟨hb.os, hb.tape, hb.output, hb.size, fun j hj _ => hb.block j hj⟩
  have ho1 : w1.ownsRow w.heap.size 22 1 (.slice (some ⟨g, 0, none⟩) n n) n xs := h.own.kept hg1 (.inr (by simp [Value.ownBlock]))
  exact ⟨by rw [ho1.cellAt k (by omega)]; exact h.todo k (Nat.le_refl _) hk, ho1.frozenAt k⟩
theorem RC.fin {w wr : World} {g n : Nat} {rs : List (List ByteArray)} {xs : List Value} (h : RC w wr g n n rs xs) (hn : rs.length = n) : RowsAt wr (.slice (some ⟨g, 0, none⟩) n n) rs := by
  subst hn
  refine ⟨_, _, rfl, .inr ⟨g, 0, fun i => (xs[i]?).getD (.slice none 0 0), rfl, (h.own.lt g rfl).2, fun i hi => ?_⟩⟩
  obtain ⟨u, hu, hr⟩ := h.done i hi
  have e : (xs[i]?).getD (.slice none 0 0) = u := by rw [hu]; rfl
  refine ⟨?_, ?_⟩
  · rw [Nat.zero_add, h.own.cellAt i (by omega), hu]
    exact congrArg some e.symm
  · show RowAt wr ((xs[i]?).getD (.slice none 0 0)) (rowAt rs i)
    rw [e]; exact hr
theorem rc_start {w w1 : World} {n : Nat} {rs : List (List ByteArray)} (h : w1.ownsRow w.heap.size 22 1 (.slice (some ⟨w.heap.size, 0, none⟩) n n) n (madeCells (Value.slice none 0 0).cells (n * 1)).toList) (hg : w.grownBy w1 none) :
    RC w w1 w.heap.size n 0 rs (List.replicate n (.slice none 0 0)) := by
  have e : (madeCells (Value.slice none 0 0).cells (n * 1)).toList = List.replicate n (.slice none 0 0) := by
    rw [Nat.mul_one]
    simpa [Value.cells] using toList_madeCells_one (.slice none 0 0) n
  rw [e] at h
  exact ⟨h, fun i hi => by omega, fun i _ hi => by simp [hi], (Below.refl _ _).grown hg (Nat.le_refl _) (fun k h => by cases h)⟩
set_option maxHeartbeats 1000000 in
set_option maxRecDepth 100000 in
theorem rows_nil (c : Nat) (w : World) : Calls Tryf.prog 6 #[.slice none 0 c] w fun e w' => e = .returned (.slice none 0 0) ∧ w = w' := by
  go_enter Tryf.func6, Tryf.ntmps6
  go_wp2
  go_ret
  exact ⟨rfl, rfl⟩
set_option maxHeartbeats 1000000 in
set_option maxRecDepth 100000 in
theorem rows_some (ad : Addr) (c : Nat) (rs : List (List ByteArray)) (w : World) (h : RowsAt w (.slice (some ad) rs.length c) rs) (hb : rs.length ≤ 2000000) (hbr : ∀ i, i < rs.length → (rowAt rs i).length ≤ 2000000) :
    Calls Tryf.prog 6 #[.slice (some ad) rs.length c] w fun e w' => ∃ v', e = .returned v' ∧ RowsAt w' v' rs ∧ Below w.heap.size w w' := by
  obtain ⟨i0, hi, hz0, hz1, hz2⟩ := info_parts Tryf.info22
  have H := hid h
  have HBR := hid hbr
  clear h hbr
  go_enter Tryf.func6, Tryf.ntmps6
  go_wp2_with (first
    | (at_make; refine wpList_make_full _ rfl _ _ 23 rfl w.heap.size 22 i0 (.slice none 0 0) 1 Tryf.underlying23 hi hz0 hz1 _ _ _ _ rs.length rfl rfl (by rfl) (by rfl) (by rw [hz2]; omega) (by unfold maxLen; omega) (by omega) ?_; intro w1 hown hgrow; have HM := hid (rc_start (rs := rs) hown hgrow); clear hown hgrow))
  go_loopw [4] (fun i wr => ∃ (k : Nat) (xs : List Value), k ≤ rs.length ∧ i = .int .i64 k ∧ RC w wr w.heap.size rs.length k rs xs) (fun i _ => rs.length - (intOf i).toNat)
  case atStart => exact ⟨0, _, Nat.zero_le _, rfl, HM.out⟩
  case round =>
    obtain ⟨k, xs, hk, rfl, hrc⟩ := hrel
    have HC := hid hrc
    clear hrc HM
    by_cases hkn : k < rs.length
    · have H2 := H.out
      obtain ⟨a, c2, hv, hx⟩ := H2
      simp only [Value.slice.injEq, true_and] at hv
      obtain ⟨rfl, rfl⟩ := hv
      rcases hx with hx | ⟨g, o, vf, hga, hg, hcell⟩
      · omega
      cases hga
      have c1 := (HC.out.below.cell (p := ⟨g, o + k, none⟩) hg).trans (hcell k hkn).1
      have HR := hid ((hcell k hkn).2.keep HC.out.below)
      have hlt := HC.out.own.lt w.heap.size rfl
      clear hcell
      go_wp2_with (first
        | (go_at_call 5; refine (clone_any (vf k) (rowAt rs k) _ HR.out (HBR.out k hkn)).mono ?_; rintro e w2 ⟨v', rfl, hr2, hb2⟩; obtain ⟨av, nv, cv, rfl⟩ := hr2.form; have HN := hid (HC.out.next hkn hr2 hb2); have HO2 := hid (own2 HC.out hkn hb2); clear hr2 hb2; obtain ⟨y0, y1⟩ := HO2.out))
      go_roundw
      case rel => exact ⟨k + 1, _, by omega, by go_num, HN.out⟩
      case measure => simp [intOf]; omega
    · have hkn' : k = rs.length := by omega
      have HF := hid (RC.fin (hkn' ▸ HC.out) rfl)
      go_wp2_with fail
      go_ret
      exact ⟨_, rfl, HF.out, HC.out.below⟩
end Go.Proofs.Qxb6614485aFmt
