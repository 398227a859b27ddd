/- cloneStrings (5), cloneRows (6), firstIndex (7). -/
import Derived.Test.Qxb6614485aFmtCmp
import Derived.Laws.CopyOwn
import Derived.OneCell
import Derived.Deep.RegionHeld3
namespace Go.Proofs.Qxb6614485aFmt
open Go.RowKit
theorem eqn22 (c : Nat) (w : World) : (binOp .eql 22 (.slice none 0 c) (.slice none 0 0)).run Tryf.prog w = .ok (.bool true) w := by kernel_rfl
theorem eqs22 (a : Addr) (n c : Nat) (w : World) : (binOp .eql 22 (.slice (some a) n c) (.slice none 0 0)).run Tryf.prog w = .ok (.bool false) w := by kernel_rfl
theorem eqn23 (c : Nat) (w : World) : (binOp .eql 23 (.slice none 0 c) (.slice none 0 0)).run Tryf.prog w = .ok (.bool true) w := by kernel_rfl
theorem eqs23 (a : Addr) (n c : Nat) (w : World) : (binOp .eql 23 (.slice (some a) n c) (.slice none 0 0)).run Tryf.prog w = .ok (.bool false) w := by kernel_rfl
attribute [local go_sem] eqn22 eqs22 eqn23 eqs23
theorem Tryf.info9 : (Tryf.prog.info? 9).map (fun i => (i.zero, i.size, i.bytes)) = some (some (.string ⟨#[]⟩), 1, 16) := by kernel_rfl
theorem Tryf.size9 : (Tryf.prog.info? 9).map (·.size) = some 1 := by kernel_rfl
def strv (ss : List ByteArray) : List Value := ss.map Value.string
theorem strv_get (ss : List ByteArray) (i : Nat) (h : i < ss.length) : (strv ss)[i]? = some (.string (el ss i)) := by simp [strv, el, List.getD, h]
theorem rowAt_blk {w : World} {g c : Nat} {cur : List Value} {t : TypeId} {ss : List ByteArray} (h : w.heap[g]? = some (.cells cur.toArray t (0, 0))) (hc : cur.take ss.length = strv ss) : RowAt w (.slice (some ⟨g, 0, none⟩) ss.length c) ss := by
  refine ⟨_, c, rfl, .inr ⟨g, 0, rfl, (Array.getElem?_eq_some_iff.1 h).1, fun i hi => ?_⟩⟩
  rw [cell_of_row w g _ _ t (0, 0) h]
  have : (cur.take ss.length)[i]? = (strv ss)[i]? := by rw [hc]
  rw [List.getElem?_take_of_lt hi, strv_get ss i hi] at this
  simpa using this
theorem strv_min (ss : List ByteArray) : (strv ss).length = Nat.min ss.length ss.length := by
  have : Nat.min ss.length ss.length = ss.length := Nat.min_self _
  rw [this]; simp [strv]
theorem strv_fit (ss : List ByteArray) : 0 + (strv ss).length ≤ (List.replicate ss.length (Value.string ⟨#[]⟩)).length := by simp [strv]
theorem strv_one (ss : List ByteArray) : ∀ v ∈ strv ss, v.oneCell' = true := by
  intro v hv
  simp only [strv, List.mem_map] at hv
  obtain ⟨s, _, rfl⟩ := hv
  rfl
theorem splice_all (ss : List ByteArray) : (splice (List.replicate ss.length (Value.string ⟨#[]⟩)) 0 (strv ss)).take ss.length = strv ss := by
  have hl : (strv ss).length = ss.length := by simp [strv]
  simp only [splice, List.take_zero, List.nil_append]
  rw [List.take_append_of_le_length (by omega), List.take_of_length_le (by omega)]
theorem src {w w1 : World} {ad : Addr} {ss : List ByteArray} {g : Nat} (hc : 0 < ss.length → ∀ j v, (strv ss)[j]? = some v → w.cell? (ad.add j) = some v) (hl : 0 < ss.length → ad.block < w.heap.size) (hb : Below w.heap.size w w1) :
    0 < (strv ss).length → (some (⟨g, 0, none⟩ : Addr)) = some ⟨g, 0, none⟩ ∧ ∃ ad', some ad = some ad' ∧ ∀ j v, (strv ss)[j]? = some v → w1.cell? (ad'.add j) = some v := by
  intro h
  have hp : 0 < ss.length := by simpa [strv] using h
  refine ⟨rfl, ad, rfl, fun j v hv => ?_⟩
  have e : (ad.add j).block = ad.block := by unfold Addr.add; split <;> simp_all
  rw [hb.cell (p := ad.add j) (by rw [e]; exact hl hp)]
  exact hc hp j v hv
theorem made {w w1 : World} {n : Nat} (h : w1.ownsRow w.heap.size 9 1 (.slice (some ⟨w.heap.size, 0, none⟩) n n) n (madeCells (Value.string ⟨#[]⟩).cells (n * 1)).toList) (hg : w.grownBy w1 none) :
    w1.heap[w.heap.size]? = some (.cells (List.replicate n (Value.string ⟨#[]⟩)).toArray 9 (0, 0)) ∧ Below w.heap.size w w1 := by
  have e : (madeCells (Value.string ⟨#[]⟩).cells (n * 1)).toList = List.replicate n (.string ⟨#[]⟩) := by
    rw [Nat.mul_one]
    simpa [Value.cells] using toList_madeCells_one (.string ⟨#[]⟩) n
  rw [e] at h
  refine ⟨?_, (Below.refl _ _).grown hg (Nat.le_refl _) (fun k h => by cases h)⟩
  rcases h.2 with ⟨h', _⟩ | ⟨g, cap, cur, h', b1, b2, b3, b4, b5, b6⟩
  · simp at h'
  · simp only [Value.slice.injEq, Option.some.injEq, Addr.mk.injEq, and_true, true_and] at h'
    obtain ⟨rfl, rfl⟩ := h'
    rw [List.take_of_length_le (by simp [b5])] at b6
    rw [b2, ← b6]
set_option maxHeartbeats 1000000 in
set_option maxRecDepth 100000 in
theorem clone_nil (c : Nat) (w : World) : Calls Tryf.prog 5 #[.slice none 0 c] w fun e w' => e = .returned (.slice none 0 0) ∧ w = w' := by
  go_enter Tryf.func5, Tryf.ntmps5
  go_wp2
  go_ret
  exact ⟨rfl, rfl⟩
set_option maxHeartbeats 1000000 in
set_option maxRecDepth 100000 in
theorem clone_some (ad : Addr) (c : Nat) (ss : List ByteArray) (w : World) (hc : 0 < ss.length → ∀ j v, (strv ss)[j]? = some v → w.cell? (ad.add j) = some v) (hb : ss.length ≤ 2000000) (hl : 0 < ss.length → ad.block < w.heap.size) :
    Calls Tryf.prog 5 #[.slice (some ad) ss.length c] w fun e w' => e = .returned (.slice (some ⟨w.heap.size, 0, none⟩) ss.length ss.length) ∧ RowAt w' (.slice (some ⟨w.heap.size, 0, none⟩) ss.length ss.length) ss ∧ Below w.heap.size w w' := by
  obtain ⟨i0, hi, hz0, hz1, hz2⟩ := info_parts Tryf.info9
  have HC := hid hc
  have HL := hid hl
  clear hc hl
  go_enter Tryf.func5, Tryf.ntmps5
  go_wp2_with (first
    | (at_make; refine wpList_make_full _ rfl _ _ 22 rfl w.heap.size 9 i0 (.string ⟨#[]⟩) 1 Tryf.underlying22 hi hz0 hz1 _ _ _ _ ss.length rfl rfl (by rfl) (by rfl) (by rw [hz2]; omega) (by unfold maxLen; omega) (by omega) ?_; intro w1 hown hgrow; have HM := hid (made hown hgrow); have HP := hid (src (g := w.heap.size) HC.out HL.out HM.out.2))
    | (refine wpList_copy_splice rfl (.tmp 9) (.tmp 10) 22 22 rfl 9 Tryf.underlying22 Tryf.size9 (some ⟨w.heap.size, 0, none⟩) (some ad) ss.length ss.length ss.length c rfl rfl w.heap.size 0 (List.replicate ss.length (.string ⟨#[]⟩)) 9 HM.out.1 (strv ss) (strv_min ss) HP.out (strv_fit ss) (strv_one ss) w.heap.size w HM.out.2 (Nat.le_refl _) ?_; intro w2 h2 hb2))
  go_ret
  exact ⟨rfl, rowAt_blk h2.out (splice_all ss), hb2⟩
/-- cloneStrings (5) -/
theorem clone_any (v : Value) (ss : List ByteArray) (w : World) (h : RowAt w v ss) (hb : ss.length ≤ 2000000) :
    Calls Tryf.prog 5 #[v] w fun e w' => ∃ v', e = .returned v' ∧ RowAt w' v' ss ∧ Below w.heap.size w w' := by
  obtain ⟨a, c, rfl, h⟩ := h
  cases a with
  | none =>
    rcases h with h | ⟨g, o, h, _⟩
    · obtain rfl : ss = [] := List.eq_nil_of_length_eq_zero h
      refine (clone_nil c w).mono ?_
      rintro e w' ⟨rfl, rfl⟩
      exact ⟨_, rfl, ⟨none, 0, rfl, .inl rfl⟩, Below.refl _ _⟩
    · cases h
  | some ad =>
    refine (clone_some ad c ss w ?_ hb ?_).mono ?_
    · intro hp j v hv
      rcases h with h | ⟨g, o, h, hg, hc⟩
      · omega
      · cases h
        rw [Addr.add_lit]
        have hj : j < ss.length := by
          have := (List.getElem?_eq_some_iff.1 hv).1
          simpa [strv] using this
        rw [hc j hj, ← strv_get ss j hj, hv]
    · intro hp
      rcases h with h | ⟨g, o, h, hg, hc⟩
      · omega
      · cases h; exact hg
    · rintro e w' ⟨rfl, h1, h2⟩
      exact ⟨_, rfl, h1, h2⟩
end Go.Proofs.Qxb6614485aFmt
