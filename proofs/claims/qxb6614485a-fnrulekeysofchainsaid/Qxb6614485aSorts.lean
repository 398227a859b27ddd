/- slices.Sort and slices.Compact on a row of the call's own. -/
import Derived.Test.Qxb6614485aShelf
import Derived.Test.Qxb6614485aKind
import Derived.Sort.Grow
import Derived.Lib.RowBridge
namespace Go.Proofs.Qxb6614485a
open Go.RowKit Go.Sort
theorem holds_ints {w : World} {g : Nat} {cur : Array Value} {e : TypeId} {zs : List Int} (hb : w.heap[g]? = some (.cells cur e (0, 0))) (ht : cur.toList.take zs.length = ints zs) : Holds (Value.int .i64) w g 0 zs.toArray := by
  intro j hj
  have hj' : j < zs.length := by simpa using hj
  refine ⟨?_, by simp [World.frozen?, hb]⟩
  have h1 : (cur.toList.take zs.length)[j]? = (ints zs)[j]? := by rw [ht]
  rw [List.getElem?_take_of_lt hj'] at h1
  simp only [World.cell?, hb, Nat.zero_add]
  simp only [Option.isSome_none, Bool.false_eq_true, if_false]
  rw [← Array.getElem?_toList, h1]
  simp [ints, hj']
theorem heap_put {w : World} {g n : Nat} {os : Array Obj} {cur : Array Value} {e : TypeId} {fr : Nat × Nat} (d : Array Int) (hb : w.heap[g]? = some (.cells cur e fr)) :
    (grow (putRow (Value.int .i64) (Sort.ahead w n) g 0 d) os).heap[g]? = some (.cells (putCells (Value.int .i64) 0 d cur) e fr) := by
  have hg : g < w.heap.size := (Array.getElem?_eq_some_iff.1 hb).1
  rw [heap_grow_old _ _ (by simpa using hg)]
  simp [putRow, mapBlock, Sort.ahead, Array.getElem?_modify, hb, onCells]
theorem kept_put {w : World} {g n : Nat} {os : Array Obj} (d : Array Int) : Kept w (grow (putRow (Value.int .i64) (Sort.ahead w n) g 0 d) os) (· = g) := by
  refine ⟨rfl, rfl, rfl, by simp, fun k hk hne => ?_⟩
  rw [heap_grow_old _ _ (by simpa using hk)]
  have : g ≠ k := fun e => hne e.symm
  simp [putRow, mapBlock, Sort.ahead, Array.getElem?_modify, this]
theorem take_put (cur : Array Value) (ts : List Int) (m : Nat) (h : ts.length ≤ cur.size) (hm : m ≤ ts.length) : (putCells (Value.int .i64) 0 ts.toArray cur).toList.take m = ints (ts.take m) := by
  apply List.ext_getElem?
  intro j
  by_cases hj : j < m
  · rw [List.getElem?_take_of_lt hj, Array.getElem?_toList]
    simp [putCells, ints, hj, show j < cur.size by omega, show j < ts.length by omega]
  · rw [List.getElem?_take_eq_none (by omega), List.getElem?_eq_none (by simp [ints]; omega)]
def sorted (zs : List Int) : List Int := zs.mergeSort fun x y => decide (x ≤ y)
theorem sorted_len (zs : List Int) : (sorted zs).length = zs.length := by simp [sorted]
theorem sort_own (w : World) (base g cap : Nat) (zs : List Int) (hown : w.ownsRow base 3 1 (.slice (some ⟨g, 0, none⟩) zs.length cap) zs.length (ints zs)) (hL : zs.length ≤ 1000000) :
    Calls Try.prog 28 #[.slice (some ⟨g, 0, none⟩) zs.length cap] w fun e w' => e = .returned (.tuple #[]) ∧ w'.ownsRow base 3 1 (.slice (some ⟨g, 0, none⟩) (sorted zs).length cap) (sorted zs).length (ints (sorted zs)) ∧ Kept w w' (· = g) := by
  rcases hown.2 with ⟨h, _⟩ | ⟨g', cap', cur, h, b1, b2, b3, b4, b5, b6⟩
  · simp at h
  · simp only [Value.slice.injEq, Option.some.injEq, Addr.mk.injEq, and_true, true_and] at h
    obtain ⟨rfl, rfl⟩ := h
    refine (Try.slices_Sort_int g 0 cap zs w (holds_ints b2 (by simpa using b6)) (Array.getElem?_eq_some_iff.1 b2).1 (by omega)).mono ?_
    rintro e w' ⟨rfl, n, os, rfl⟩
    refine ⟨rfl, ⟨by simp [ints], .inr ⟨g, cap, _, rfl, b1, heap_put _ b2, by rw [sorted_len]; exact b3, b4, by simp [putCells, b5], ?_⟩⟩, kept_put _⟩
    have := take_put cur (sorted zs) (sorted zs).length (by rw [sorted_len]; omega) (Nat.le_refl _)
    rw [List.take_length] at this
    rw [Nat.mul_one]
    exact this
theorem compact_own (w : World) (base g cap : Nat) (zs : List Int) (hown : w.ownsRow base 3 1 (.slice (some ⟨g, 0, none⟩) zs.length cap) zs.length (ints zs)) (hL : zs.length ≤ 1000000) :
    Calls Try.prog 29 #[.slice (some ⟨g, 0, none⟩) zs.length cap] w fun e w' => e = .returned (.slice (some ⟨g, 0, none⟩) (Lib.compact zs).length cap) ∧
      w'.ownsRow base 3 1 (.slice (some ⟨g, 0, none⟩) (Lib.compact zs).length cap) (Lib.compact zs).length (ints (Lib.compact zs)) ∧ Kept w w' (· = g) := by
  rcases hown.2 with ⟨h, _⟩ | ⟨g', cap', cur, h, b1, b2, b3, b4, b5, b6⟩
  · simp at h
  · simp only [Value.slice.injEq, Option.some.injEq, Addr.mk.injEq, and_true, true_and] at h
    obtain ⟨rfl, rfl⟩ := h
    have hcl : (Lib.compact zs).length ≤ zs.length := Lib.compact_length_le zs
    refine (Try.slices_Compact_int g 0 cap zs w (holds_ints b2 (by simpa using b6)) (by omega) b3).mono ?_
    rintro e w' ⟨rfl, q, rfl⟩
    have hh := heap_put (n := q) (os := #[]) (Lib.compact zs ++ List.replicate (zs.length - (Lib.compact zs).length) 0).toArray b2
    have hk := kept_put (w := w) (g := g) (n := q) (os := #[]) (Lib.compact zs ++ List.replicate (zs.length - (Lib.compact zs).length) 0).toArray
    rw [grow_empty] at hh hk
    refine ⟨rfl, ⟨by simp [ints], .inr ⟨g, cap, _, rfl, b1, hh, by omega, b4, by simp [putCells, b5], ?_⟩⟩, hk⟩
    have := take_put cur (Lib.compact zs ++ List.replicate (zs.length - (Lib.compact zs).length) 0) (Lib.compact zs).length (by simp; omega) (by simp)
    simpa using this
end Go.Proofs.Qxb6614485a
