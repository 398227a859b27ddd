/- The filter of PermissionsForUser (16) and slices.Clone (28). -/
import Derived.Test.Qxb6614485aFmtRowsC
import Derived.Laws.AppendOwn
import Derived.Laws.OwnMore
namespace Go.Proofs.Qxb6614485aFmt
open Go.RowKit
attribute [local go_sem] eqn22 eqs22 eqn23 eqs23
/-- a slice of strings that reads ss, in a row of strings of its own -/
def RowT (w : World) (v : Value) (ss : List ByteArray) : Prop :=
  ∃ a c, v = .slice a ss.length c ∧ (ss.length = 0 ∨ ∃ g cur, a = some ⟨g, 0, none⟩ ∧ w.heap[g]? = some (.cells cur 9 (0, 0)) ∧ ∀ i, i < ss.length → cur[i]? = some (.string (el ss i)))
/-- rows of strings stay -/
def T9 (w w' : World) : Prop := ∀ (g : Nat) (cur : Array Value), w.heap[g]? = some (.cells cur 9 (0, 0)) → w'.heap[g]? = some (.cells cur 9 (0, 0))
theorem T9.refl (w : World) : T9 w w := fun _ _ h => h
theorem T9.trans {a b c : World} (h : T9 a b) (k : T9 b c) : T9 a c := fun g cur hg => k g cur (h g cur hg)
theorem T9.ofBelow {a b : World} (h : Below a.heap.size a b) : T9 a b := fun g cur hg => by
  rw [h.block g (Array.getElem?_eq_some_iff.1 hg).1]; exact hg
theorem T9.ofGrown {a b : World} {k : Nat} {cur : Array Value} {t : TypeId} (h : a.grownBy b (some k)) (hk : a.heap[k]? = some (.cells cur t (0, 0))) (ht : t ≠ 9) : T9 a b := fun g cur' hg => by
  rw [h.block g (Array.getElem?_eq_some_iff.1 hg).1 (fun e => by cases e; rw [hk] at hg; simp only [Option.some.injEq, Obj.cells.injEq] at hg; exact ht hg.2.1)]; exact hg
theorem RowT.keep {w w' : World} {v : Value} {ss : List ByteArray} (h : RowT w v ss) (k : T9 w w') : RowT w' v ss := by
  obtain ⟨a, c, rfl, h⟩ := h
  exact ⟨a, c, rfl, h.imp id (fun ⟨g, cur, h1, h2, h3⟩ => ⟨g, cur, h1, k g cur h2, h3⟩)⟩
theorem RowT.row {w : World} {v : Value} {ss : List ByteArray} (h : RowT w v ss) : RowAt w v ss := by
  obtain ⟨a, c, rfl, h⟩ := h
  refine ⟨a, c, rfl, h.imp id ?_⟩
  rintro ⟨g, cur, h1, h2, h3⟩
  refine ⟨g, 0, h1, (Array.getElem?_eq_some_iff.1 h2).1, fun i hi => ?_⟩
  rw [cell_of_row w g _ _ 9 (0, 0) h2, Nat.zero_add]
  exact h3 i hi
theorem RowT.nil (w : World) : RowT w (.slice none 0 0) [] := ⟨none, 0, rfl, .inl rfl⟩
theorem RowT.own {w : World} {base n : Nat} {v : Value} {ss : List ByteArray} (h : w.ownsRow base 9 1 v n (strv ss)) : RowT w v ss := by
  have hl : ss.length = n := by have := h.1; simpa [strv] using this
  subst hl
  rcases h.2 with ⟨rfl, h0⟩ | ⟨g, cap, cur, rfl, b1, b2, b3, b4, b5, b6⟩
  · exact ⟨none, 0, by rw [h0], .inl h0⟩
  · refine ⟨_, cap, rfl, .inr ⟨g, cur, rfl, b2, fun i hi => ?_⟩⟩
    have := strv_get ss i hi
    rw [← b6, List.getElem?_take, if_pos (by omega)] at this
    simpa using this
set_option maxHeartbeats 1000000 in
theorem keep_any (v : Value) (ss : List ByteArray) (name : ByteArray) (b1 b2 sub : Nat) (w : World) (h : RowAt w v ss) (hs : sub < ss.length)
    (c1 : w.cell? ⟨b1, 0, none⟩ = some (.int .i64 sub)) (c2 : w.cell? ⟨b2, 0, none⟩ = some (.string name)) :
    Calls Tryf.prog 16 #[v, .pointer (some ⟨b1, 0, none⟩), .pointer (some ⟨b2, 0, none⟩)] w fun e w' => e = .returned (.bool ((el ss sub).toList == name.toList)) ∧ Below w.heap.size w w' := by
  obtain ⟨a, c, rfl, h⟩ := h
  rcases h with h | ⟨g, o, rfl, hg, hc⟩
  · omega
  have c3 := hc sub hs
  clear hc
  generalize el ss sub = x at c3
  go_enter Tryf.func16, Tryf.ntmps16
  go_wp2_with fail
  go_region
  all_goals
    go_wp2_with fail
    go_ret
    exact ⟨rfl, (Below.refl _ _).drew⟩
set_option maxHeartbeats 1000000 in
set_option maxRecDepth 100000 in
theorem clone28_nil (c : Nat) (w : World) : Calls Tryf.prog 28 #[.slice none 0 c] w fun e w' => e = .returned (.slice none 0 0) ∧ w = w' := by
  go_enter Tryf.func28, Tryf.ntmps28
  go_wp2
  go_ret
  exact ⟨rfl, rfl⟩
theorem lit0 (w : World) : (w.alloc (.cells #[] 9)).ownsRow w.heap.size 9 1 (.slice (some ⟨w.heap.size, 0, none⟩) 0 0) 0 [] := by
  have := World.ownsRow_lit (base := w.heap.size) (e := 9) (size := 1) w #[] 0 (Nat.le_refl _) (by simp [maxLen]) (by simp)
  simpa using this
theorem strv_mul (ss : List ByteArray) : (strv ss).length = ss.length * 1 := by simp [strv]
theorem le_alloc (w : World) (o : Obj) : w.heap.size ≤ (w.alloc o).heap.size := by simp
theorem news1 (w : World) (ad : Addr) (ss : List ByteArray) (hc : ∀ j v, (strv ss)[j]? = some v → w.cell? (ad.add j) = some v) (hl : 0 < ss.length → ad.block < w.heap.size) : ∀ j v, (strv ss)[j]? = some v → (w.alloc (.cells #[] 9)).cell? (ad.add j) = some v := by
  intro j v hv
  have hj : j < ss.length := by
    have := (List.getElem?_eq_some_iff.1 hv).1
    simpa [strv] using this
  have e : (ad.add j).block = ad.block := by unfold Addr.add; split <;> simp_all
  have hb : Below w.heap.size w (w.alloc (.cells #[] 9)) := (Below.refl _ _).alloc (Nat.le_refl _) _
  rw [hb.cell (p := ad.add j) (by rw [e]; exact hl (by omega))]
  exact hc j v hv
set_option maxHeartbeats 1000000 in
set_option maxRecDepth 100000 in
theorem clone28_some (ad : Addr) (c : Nat) (ss : List ByteArray) (w : World) (hc : ∀ j v, (strv ss)[j]? = some v → w.cell? (ad.add j) = some v) (hb : ss.length ≤ 2000000) (hl : 0 < ss.length → ad.block < w.heap.size) :
    Calls Tryf.prog 28 #[.slice (some ad) ss.length c] w fun e w' => ∃ v', e = .returned v' ∧ RowT w' v' ss ∧ Below w.heap.size w w' := by
  obtain ⟨i0, hi, hz0, hz1, hz2⟩ := info_parts Tryf.info9
  have HC := hid hc
  have HL := hid hl
  clear hc hl
  go_enter Tryf.func28, Tryf.ntmps28
  go_wp2_with (first
    | (at_builtin; refine wpList_append_own _ rfl (.tmp 5) (.tmp 6) 22 rfl w.heap.size 9 i0 (.string ⟨#[]⟩) 1 16 Tryf.underlying22 hi hz0 hz1 hz2 rfl (by decide) (.slice (some ⟨w.heap.size, 0, none⟩) 0 0) 0 [] rfl (by exact lit0 w) ad ss.length c (strv ss) rfl (by exact strv_mul ss)
        (by exact news1 w ad ss HC.out HL.out) (by exact strv_one ss) (by unfold maxLen; omega) (by omega) (by exact le_alloc _ _) ?_; intro v' w1 hown hgrow _; have HM := hid (And.intro hown hgrow); clear hown hgrow))
  go_ret
  obtain ⟨hown, hgrow⟩ := HM.out
  exact ⟨v', rfl, RowT.own (by simpa using hown), ((Below.refl _ _).alloc (Nat.le_refl _) _).grown hgrow (by simp) (fun k h => by simp [Value.ownBlock] at h; omega)⟩
/-- slices.Clone (28) -/
theorem clone28 (v : Value) (ss : List ByteArray) (w : World) (h : RowAt w v ss) (hb : ss.length ≤ 2000000) :
    Calls Tryf.prog 28 #[v] w fun e w' => ∃ v', e = .returned v' ∧ RowT w' v' ss ∧ Below w.heap.size w w' := by
  obtain ⟨a, c, rfl, h⟩ := h
  cases a with
  | none =>
    rcases h with h | ⟨g, o, h, _⟩
    · obtain rfl : ss = [] := List.eq_nil_of_length_eq_zero h
      refine (clone28_nil c w).mono ?_
      rintro e w' ⟨rfl, rfl⟩
      exact ⟨_, rfl, RowT.nil _, Below.refl _ _⟩
    · cases h
  | some ad =>
    refine clone28_some ad c ss w ?_ hb ?_
    · intro j v hv
      have hj : j < ss.length := by
        have := (List.getElem?_eq_some_iff.1 hv).1
        simpa [strv] using this
      rcases h with h | ⟨g, o, h, hg, hc⟩
      · omega
      · cases h
        rw [Addr.add_lit, hc j hj, ← strv_get ss j hj, hv]
    · intro hp
      rcases h with h | ⟨g, o, h, hg, hc⟩
      · omega
      · cases h; exact hg
end Go.Proofs.Qxb6614485aFmt
