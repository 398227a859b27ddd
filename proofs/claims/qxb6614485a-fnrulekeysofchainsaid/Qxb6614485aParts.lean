/- The main function (3): the slice of conjuncts. -/
import Derived.Test.Qxb6614485aMeet
namespace Go.Proofs.Qxb6614485a
open Go.RowKit
abbrev st4 (w : World) (g o : Nat) (x : Value) : World := (((w.setCell ⟨g, o, none⟩ x).setCell ⟨g, o + 1, none⟩ (.string ⟨#[]⟩)).setCell ⟨g, o + 2, none⟩ (.int .u8 0)).setCell ⟨g, o + 3, none⟩ (.int .i64 0)
abbrev up4 (cur : Array Value) (o : Nat) (x : Value) : Array Value := (((cur.setIfInBounds o x).setIfInBounds (o + 1) (.string ⟨#[]⟩)).setIfInBounds (o + 2) (.int .u8 0)).setIfInBounds (o + 3) (.int .i64 0)
theorem st4_same {w : World} {g o : Nat} {x : Value} {cur : Array Value} (h : w.heap[g]? = some (.cells cur 30 (0, 0))) : (st4 w g o x).heap[g]? = some (.cells (up4 cur o x) 30 (0, 0)) :=
  heap_setCell_same _ _ _ _ _ _ (heap_setCell_same _ _ _ _ _ _ (heap_setCell_same _ _ _ _ _ _ (heap_setCell_same _ _ _ _ _ _ h)))
theorem st4_other {w : World} {g o : Nat} {x : Value} {j : Nat} (h : j ≠ g) : (st4 w g o x).heap[j]? = w.heap[j]? := by
  rw [heap_setCell_other _ _ _ _ h, heap_setCell_other _ _ _ _ h, heap_setCell_other _ _ _ _ h, heap_setCell_other _ _ _ _ h]
theorem st4_size {w : World} {g o : Nat} {x : Value} : (st4 w g o x).heap.size = w.heap.size := by simp
theorem up4_get {cur : Array Value} {o : Nat} {x : Value} (h : o + 3 < cur.size) : (up4 cur o x)[o]? = some x ∧ (up4 cur o x)[o + 1]? = some (.string ⟨#[]⟩) ∧ (up4 cur o x)[o + 2]? = some (.int .u8 0) ∧ (up4 cur o x)[o + 3]? = some (.int .i64 0) := by
  refine ⟨?_, ?_, ?_, ?_⟩ <;> simp [Array.getElem?_setIfInBounds] <;> omega
theorem up4_far {cur : Array Value} {o j : Nat} {x : Value} (h : j < o ∨ o + 3 < j) : (up4 cur o x)[j]? = cur[j]? := by
  rw [Array.getElem?_setIfInBounds, if_neg (by omega), Array.getElem?_setIfInBounds, if_neg (by omega), Array.getElem?_setIfInBounds, if_neg (by omega), Array.getElem?_setIfInBounds, if_neg (by omega)]
theorem IsConj.keepT {w w' : World} {t a b : Int} {x : Value} (h : IsConj w w.heap.size t a b x) (hs : w.heap.size ≤ w'.heap.size) (key : ∀ (k : Nat) (cs : Array Value) (t : TypeId), t ≠ 30 → w.heap[k]? = some (.cells cs t (0, 0)) → w'.heap[k]? = some (.cells cs t (0, 0))) : IsConj w' w'.heap.size t a b x := by
  have kb : ∀ {y z x}, IsBin w w.heap.size y z x → IsBin w' w'.heap.size y z x := fun ⟨k, k1, k2, k3⟩ => ⟨k, by omega, k2, key _ _ _ (by decide) k3⟩
  have kr : ∀ {y z x}, IsRole w w.heap.size y z x → IsRole w' w'.heap.size y z x := fun ⟨k, k1, k2, k3⟩ => ⟨k, by omega, k2, key _ _ _ (by decide) k3⟩
  rcases h with ⟨h1, h⟩ | ⟨h1, h⟩ | ⟨h1, h⟩ | ⟨h1, ⟨k, u, k1, k2, k3, k4⟩⟩ | ⟨h1, ⟨k, k1, k2, k3⟩⟩
  · exact .inl ⟨h1, kb h⟩
  · exact .inr (.inl ⟨h1, kb h⟩)
  · exact .inr (.inr (.inl ⟨h1, kr h⟩))
  · exact .inr (.inr (.inr (.inl ⟨h1, ⟨k, u, by omega, k2, key _ _ _ (by decide) k3, kr k4⟩⟩)))
  · exact .inr (.inr (.inr (.inr ⟨h1, ⟨k, by omega, k2, key _ _ _ (by decide) k3⟩⟩)))
structure PInv (w wr : World) (g n k : Nat) (cs : Nat → Int × Int × Int) (xf : Nat → Value) : Prop where
  blk : ∃ cur : Array Value, wr.heap[g]? = some (.cells cur 30 (0, 0)) ∧ cur.size = n * 4 ∧ ∀ j, j < k → cur[j * 4]? = some (xf j) ∧ cur[j * 4 + 1]? = some (.string ⟨#[]⟩) ∧ cur[j * 4 + 2]? = some (.int .u8 0) ∧ cur[j * 4 + 3]? = some (.int .i64 0)
  cj : ∀ j, j < k → IsConj wr wr.heap.size (cs j).1 (cs j).2.1 (cs j).2.2 (xf j)
  below : Below w.heap.size w wr
  ge : w.heap.size ≤ g
theorem PInv.lt {w wr : World} {g n k : Nat} {cs : Nat → Int × Int × Int} {xf : Nat → Value} (h : PInv w wr g n k cs xf) : g < wr.heap.size := by
  obtain ⟨cur, h1, _⟩ := h.blk
  exact (Array.getElem?_eq_some_iff.1 h1).1
theorem PInv.next {w wr w1 : World} {g n k : Nat} {cs : Nat → Int × Int × Int} {xf : Nat → Value} {x : Value} (h : PInv w wr g n k cs xf) (hx : IsConj w1 w1.heap.size (cs k).1 (cs k).2.1 (cs k).2.2 x) (hb : Below wr.heap.size wr w1) (hk : k < n) :
    PInv w (st4 w1 g (k * 4) x) g n (k + 1) cs (fun j => if j = k then x else xf j) := by
  have hlt := h.lt
  obtain ⟨cur, h1, h2, h3⟩ := h.blk
  have hg1 : w1.heap[g]? = some (.cells cur 30 (0, 0)) := by rw [hb.block g hlt]; exact h1
  have hz := h.below.size
  have hz1 := hb.size
  have key : ∀ (k' : Nat) (cs : Array Value) (t : TypeId), t ≠ 30 → w1.heap[k']? = some (.cells cs t (0, 0)) → (st4 w1 g (k * 4) x).heap[k']? = some (.cells cs t (0, 0)) := by
    intro k' cs t ht hk'
    have hne : k' ≠ g := by
      rintro rfl
      rw [hg1] at hk'
      simp only [Option.some.injEq, Obj.cells.injEq] at hk'
      exact ht hk'.2.1.symm
    rw [st4_other hne]; exact hk'
  refine ⟨⟨_, st4_same hg1, by simpa using h2, ?_⟩, ?_, ?_, h.ge⟩
  · intro j hj
    by_cases hjk : j = k
    · subst hjk
      rw [if_pos rfl]
      exact up4_get (by omega)
    · rw [if_neg hjk]
      obtain ⟨q1, q2, q3, q4⟩ := h3 j (by omega)
      exact ⟨by rw [up4_far (by omega)]; exact q1, by rw [up4_far (by omega)]; exact q2, by rw [up4_far (by omega)]; exact q3, by rw [up4_far (by omega)]; exact q4⟩
  · intro j hj
    by_cases hjk : j = k
    · subst hjk
      rw [if_pos rfl]
      exact hx.keepT (by rw [st4_size]; exact Nat.le_refl _) key
    · rw [if_neg hjk]
      exact ((h.cj j (by omega)).keep hz1 (fun i hi => hb.block i hi)).keepT (by rw [st4_size]; exact Nat.le_refl _) key
  · have hbel : Below w.heap.size w w1 := h.below.trans (hb.mono hz)
    exact (((hbel.setCell h.ge _).setCell h.ge _).setCell h.ge _).setCell h.ge _
/-- the four cells that the store writes -/
theorem PInv.four {w wr w1 : World} {g n k : Nat} {cs : Nat → Int × Int × Int} {xf : Nat → Value} (h : PInv w wr g n k cs xf) (hb : Below wr.heap.size wr w1) (hk : k < n) :
    ∃ u0 u1 u2 u3, w1.cell? ⟨g, k * 4, none⟩ = some u0 ∧ w1.cell? ⟨g, k * 4 + 1, none⟩ = some u1 ∧ w1.cell? ⟨g, k * 4 + 2, none⟩ = some u2 ∧ w1.cell? ⟨g, k * 4 + 3, none⟩ = some u3 ∧
      w1.frozen? ⟨g, k * 4, none⟩ = false ∧ w1.frozen? ⟨g, k * 4 + 1, none⟩ = false ∧ w1.frozen? ⟨g, k * 4 + 2, none⟩ = false ∧ w1.frozen? ⟨g, k * 4 + 3, none⟩ = false := by
  have hlt := h.lt
  obtain ⟨cur, h1, h2, h3⟩ := h.blk
  have hg1 : w1.heap[g]? = some (.cells cur 30 (0, 0)) := by rw [hb.block g hlt]; exact h1
  have hc : ∀ j, j < cur.size → w1.cell? ⟨g, j, none⟩ = some cur[j]! := fun j hj => by
    rw [cell_of_row w1 g j cur 30 (0, 0) hg1]
    simp [hj]
  exact ⟨_, _, _, _, hc _ (by omega), hc _ (by omega), hc _ (by omega), hc _ (by omega), frozen_of_row _ _ _ _ _ hg1, frozen_of_row _ _ _ _ _ hg1, frozen_of_row _ _ _ _ _ hg1, frozen_of_row _ _ _ _ _ hg1⟩
/-- the cells of the arguments, behind the store -/
theorem far4 {w w1 : World} {g o : Nat} {x : Value} (hb : Below w.heap.size w w1) (hg : w.heap.size ≤ g) (p : Addr) (hp : p.block < w.heap.size) : (st4 w1 g o x).cell? p = w.cell? p := by
  rw [World.cell?_of_block (w := w1) (st4_other (by omega)), hb.cell hp]
theorem parts_start {w w1 : World} {n : Nat} {cs : Nat → Int × Int × Int} {xs : List Value} (ho : w1.ownsRow w.heap.size 30 4 (.slice (some ⟨w.heap.size, 0, none⟩) n n) n xs) (hg : w.grownBy w1 none) : PInv w w1 w.heap.size n 0 cs (fun _ => .nilIface) := by
  rcases ho.2 with ⟨h, _⟩ | ⟨g, cap, cur, h, b1, b2, b3, b4, b5, b6⟩
  · simp at h
  · simp only [Value.slice.injEq, Option.some.injEq, Addr.mk.injEq, and_true, true_and] at h
    obtain ⟨rfl, rfl⟩ := h
    exact ⟨⟨cur, b2, b5, fun j hj => by omega⟩, fun j hj => by omega, (Below.refl _ _).grown hg (Nat.le_refl _) (fun k h => by cases h), Nat.le_refl _⟩
end Go.Proofs.Qxb6614485a
