/- A row of cells stored one by one into a block that is known whole. -/
import Derived.Test.Qxb6614691aFmtModel
namespace Go.Proofs.Qxb6614691aFmt
open Go.RowKit
theorem setCells_heap (g t : Nat) : ∀ (l : List Value) (o : Nat) (c : Array Value) (W : World), W.heap[g]? = some (.cells c t (0, 0)) →
    ∃ c', (W.setCells g o l).heap[g]? = some (.cells c' t (0, 0)) ∧ c'.size = c.size ∧ ∀ j, j < c.size → c'[j]? = if o ≤ j ∧ j < o + l.length then l[j - o]? else c[j]?
  | [], o, c, W, h => ⟨c, h, rfl, fun j hj => by rw [if_neg (by simp)]⟩
  | v :: r, o, c, W, h => by
    have h1 := heap_setCell_same W g o c t v h
    obtain ⟨c', h2, h3, h4⟩ := setCells_heap g t r (o + 1) (c.setIfInBounds o v) (W.setCell ⟨g, o, none⟩ v) h1
    refine ⟨c', h2, by simpa using h3, fun j hj => ?_⟩
    rw [h4 j (by simpa using hj)]
    by_cases hj1 : o + 1 ≤ j ∧ j < o + 1 + r.length
    · rw [if_pos hj1, if_pos (by simp; omega), show j - o = (j - (o + 1)) + 1 by omega]; rfl
    · rw [if_neg hj1]
      by_cases hjo : j = o
      · subst hjo
        rw [if_pos (by simp), Nat.sub_self]
        simp [hj]
      · rw [if_neg (by simp; omega), Array.getElem?_setIfInBounds_ne (by omega)]
theorem setCells_whole {g t : Nat} {l : List Value} {c : Array Value} {W : World} (h : W.heap[g]? = some (.cells c t (0, 0))) (hl : l.length = c.size) :
    (W.setCells g 0 l).heap[g]? = some (.cells l.toArray t (0, 0)) := by
  obtain ⟨c', h1, h2, h3⟩ := setCells_heap g t l 0 c W h
  rw [h1]
  have e : c' = l.toArray := by
    apply Array.ext_getElem?
    intro j
    by_cases hj : j < c.size
    · rw [h3 j hj, if_pos (by omega)]; simp
    · rw [Array.getElem?_eq_none (by omega), Array.getElem?_eq_none (by simp; omega)]
  rw [e]
theorem setCells_other (g k : Nat) (h : k ≠ g) : ∀ (l : List Value) (o : Nat) (W : World), (W.setCells g o l).heap[k]? = W.heap[k]?
  | [], _, _ => rfl
  | v :: r, o, W => by
    show ((W.setCell ⟨g, o, none⟩ v).setCells g (o + 1) r).heap[k]? = _
    rw [setCells_other g k h r (o + 1), heap_setCell_other W ⟨g, o, none⟩ k v h]
theorem setCells_size (g : Nat) : ∀ (l : List Value) (o : Nat) (W : World), (W.setCells g o l).heap.size = W.heap.size
  | [], _, _ => rfl
  | v :: r, o, W => by
    show ((W.setCell ⟨g, o, none⟩ v).setCells g (o + 1) r).heap.size = _
    rw [setCells_size g r (o + 1)]; simp [World.setCell]
theorem below_setCells {B : Nat} {a : World} (g : Nat) (hg : B ≤ g) : ∀ (l : List Value) (o : Nat) (W : World), Below B a W → Below B a (W.setCells g o l)
  | [], _, _, h => h
  | v :: r, o, W, h => below_setCells g hg r (o + 1) (W.setCell ⟨g, o, none⟩ v) (h.setCell hg v)
/-- the world that zzModelTraceparent's return leaves -/
def leftWorld (W : World) (B : Nat) (l1 l2 : List Value) : World := (W.setCells B 0 l1).setCells (B + 1) 0 l2
theorem left_facts {w W : World} {l1 l2 : List Value} (h1 : W.heap[w.heap.size]? = some (.cells zero16 23 (0, 0))) (h2 : W.heap[w.heap.size + 1]? = some (.cells zero8 25 (0, 0))) (hb : Below w.heap.size w W)
    (hl1 : l1.length = 16) (hl2 : l2.length = 8) :
    (leftWorld W w.heap.size l1 l2).heap[w.heap.size]? = some (.cells l1.toArray 23 (0, 0)) ∧ (leftWorld W w.heap.size l1 l2).heap[w.heap.size + 1]? = some (.cells l2.toArray 25 (0, 0)) ∧ Below w.heap.size w (leftWorld W w.heap.size l1 l2) := by
  unfold leftWorld
  refine ⟨?_, ?_, below_setCells _ (by omega) _ _ _ (below_setCells _ (Nat.le_refl _) _ _ _ hb)⟩
  · rw [setCells_other _ _ (by omega)]; exact setCells_whole h1 hl1
  · exact setCells_whole (c := zero8) (by rw [setCells_other _ _ (by omega)]; exact h2) hl2
end Go.Proofs.Qxb6614691aFmt
