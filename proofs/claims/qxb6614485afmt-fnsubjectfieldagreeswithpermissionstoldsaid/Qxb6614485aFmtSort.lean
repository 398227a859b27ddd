/- slices.SortFunc at rows of strings (29). -/
import Derived.Test.Qxb6614485aFmtKeep
import Derived.Test.Qxb6614485aFmtEq
import Derived.Test.Qxb6614485aFmtSortLay
namespace Go.Proofs.Qxb6614485aFmt
open Go.RowKit Go.Shelf Go.Lib Go.Sort
/-- a row's value together with what it reads -/
abbrev El (w : World) := { p : Value × List ByteArray // RowT w p.1 p.2 ∧ p.2.length ≤ 2000000 }
instance (w : World) : Inhabited (El w) := ⟨⟨(.slice none 0 0, []), RowT.nil w, by simp⟩⟩
def elv {w : World} (x : El w) : Value := x.1.1
def elr {w : World} (x : El w) : List ByteArray := x.1.2
def elc {w : World} (x y : El w) : Int := rc (elr x) (elr y)
theorem elv_one {w : World} : OneCell (elv (w := w)) := fun x => by
  obtain ⟨a, c, h, _⟩ := x.2.1
  unfold elv
  rw [h]; rfl
theorem elc_swo {w : World} : SWO (ltOf (elc (w := w))) where
  irrefl x := by simp [ltOf, elc, rc_self]
  trans x y z h1 h2 := decide_eq_true (rc_trans _ _ _ (of_decide_eq_true h1) (of_decide_eq_true h2))
  ntrans x y z h1 h2 := by
    have h1 : ¬ rc (elr x) (elr y) < 0 := of_decide_eq_false h1
    have h2 : ¬ rc (elr y) (elr z) < 0 := of_decide_eq_false h2
    refine decide_eq_false ?_
    show ¬ rc (elr x) (elr z) < 0
    intro h3
    have n1 := rc_neg (elr x) (elr y)
    have n2 := rc_neg (elr y) (elr z)
    by_cases e1 : rc (elr x) (elr y) = 0
    · rw [(rc_zero _ _).1 e1] at h3; exact h2 h3
    · by_cases e2 : rc (elr y) (elr z) = 0
      · rw [← (rc_zero _ _).1 e2] at h3; exact h1 h3
      · have := rc_trans _ _ _ (show rc (elr z) (elr y) < 0 by omega) (show rc (elr y) (elr x) < 0 by omega)
        have n3 := rc_neg (elr x) (elr z)
        omega
theorem heap_sortWorld {α : Type} [Inhabited α] (enc : α → Value) (w : World) (blk off m : Nat) (dk : Array α) (os : Array Obj) (j : Nat) (hj : j < w.heap.size) (hne : j ≠ blk) : (sortWorld enc w blk off m dk os).heap[j]? = w.heap[j]? := by
  show ((w.heap.modify blk (onCells (putCells enc off dk))) ++ os)[j]? = _
  rw [Array.getElem?_append_left (by simpa using hj), Array.getElem?_modify, if_neg (Ne.symm hne)]
theorem heap_sortWorld_row {α : Type} [Inhabited α] (enc : α → Value) (w : World) (blk off m : Nat) (dk : Array α) (os : Array Obj) (c : Array Value) (t : TypeId) (f : Nat × Nat) (h : w.heap[blk]? = some (.cells c t f)) : (sortWorld enc w blk off m dk os).heap[blk]? = some (.cells (putCells enc off dk c) t f) := by
  have hj := (Array.getElem?_eq_some_iff.1 h).1
  show ((w.heap.modify blk (onCells (putCells enc off dk))) ++ os)[blk]? = _
  rw [Array.getElem?_append_left (by simpa using hj), Array.getElem?_modify, if_pos rfl, h]; rfl
theorem size_sortWorld {α : Type} [Inhabited α] (enc : α → Value) (w : World) (blk off m : Nat) (dk : Array α) (os : Array Obj) : w.heap.size ≤ (sortWorld enc w blk off m dk os).heap.size := by
  show w.heap.size ≤ ((w.heap.modify blk (onCells (putCells enc off dk))) ++ os).size
  simp
theorem t9_sortWorld {α : Type} [Inhabited α] (enc : α → Value) (w : World) (blk off m : Nat) (dk : Array α) (os : Array Obj) (c : Array Value) (h : w.heap[blk]? = some (.cells c 22 (0, 0))) : T9 w (sortWorld enc w blk off m dk os) := fun g cur hg => by
  rw [heap_sortWorld _ _ _ _ _ _ _ g (Array.getElem?_eq_some_iff.1 hg).1 (fun e => by subst e; rw [h] at hg; simp at hg)]
  exact hg
theorem cmp_lays (w : World) (blk off size : Nat) (c : Array Value) (h : w.heap[blk]? = some (.cells c 22 (0, 0))) : CmpLays1 Tryf.prog 30 #[] (elv (w := w)) elc blk off size w := by
  intro m os dk _ x y
  refine (cmpRow (elv x) (elv y) (elr x) (elr y) _ (x.2.1.keep (t9_sortWorld elv w blk off m dk os c h)).row (y.2.1.keep (t9_sortWorld elv w blk off m dk os c h)).row x.2.2).mono ?_
  rintro e w' ⟨rfl, rfl⟩
  exact ⟨rfl, 0, #[], by simp [World.drewN]⟩
theorem els_of (w : World) : ∀ (ps : List (Value × List ByteArray)), (∀ p, p ∈ ps → RowT w p.1 p.2 ∧ p.2.length ≤ 2000000) → ∃ l : List (El w), l.map (·.1) = ps
  | [], _ => ⟨[], rfl⟩
  | p :: ps, h => by
    obtain ⟨l, hl⟩ := els_of w ps (fun q hq => h q (by simp [hq]))
    exact ⟨⟨p, h p (by simp)⟩ :: l, by simp [hl]⟩
/-- slices.SortFunc (29) with slices.Compare (30): the row holds a permutation of what it held, ascending -/
theorem sort_any (w : World) (base blk cap : Nat) (ps : List (Value × List ByteArray)) (h : w.ownsRow base 22 1 (.slice (some ⟨blk, 0, none⟩) ps.length cap) ps.length (ps.map (·.1))) (hr : ∀ p, p ∈ ps → RowT w p.1 p.2 ∧ p.2.length ≤ 2000000) (hn : ps.length ≤ 2000000) :
    Calls Tryf.prog 29 #[.slice (some ⟨blk, 0, none⟩) ps.length cap, .func (.func 30) #[] #[]] w fun e w' => e = .returned (.tuple #[]) ∧
      ∃ qs : List (Value × List ByteArray), qs.Perm ps ∧ w'.ownsRow base 22 1 (.slice (some ⟨blk, 0, none⟩) ps.length cap) ps.length (qs.map (·.1)) ∧ (∀ i j, i < j → j < qs.length → rc (qs.getD i (.slice none 0 0, [])).2 (qs.getD j (.slice none 0 0, [])).2 ≤ 0) ∧ T9 w w' ∧ w.grownBy w' (some blk) := by
  have eg : ∀ args w, (callFunc 30 args).run Tryf.prog w = .ok (.enter 30 args) w := enters_of Tryf.func30 (by kernel_rfl) rfl
  obtain ⟨l, rfl⟩ := els_of w ps hr
  have hs : (l.map (·.1)).length = l.toArray.size := by simp
  rw [hs] at h ⊢
  obtain ⟨c, hc, hcs, hcap, hle⟩ : ∃ c, w.heap[blk]? = some (.cells c 22 (0, 0)) ∧ c.size = cap * 1 ∧ cap ≤ maxLen ∧ l.toArray.size ≤ cap := by
    rcases h.2 with ⟨h', _⟩ | ⟨g, cap', cur, h', b1, b2, b3, b4, b5, b6⟩
    · simp at h'
    · simp only [Value.slice.injEq, Option.some.injEq, Addr.mk.injEq, and_true, true_and] at h'
      obtain ⟨rfl, rfl⟩ := h'
      exact ⟨cur, b2, b5, b4, b3⟩
  have hb := h.lt blk rfl
  have hH : Holds (elv (w := w)) w blk 0 l.toArray := fun j hj => by
    refine ⟨?_, h.frozenAt _⟩
    have hj' : j < l.length := by simpa using hj
    rw [Nat.zero_add, h.cellAt j (by omega), getElem!_pos _ j hj]
    simp [elv, hj']
  have hcon := Any.slices_SortFunc Tryf.sortF (elv (w := w)) elv_one elc elc_swo 30 #[] blk 0 cap l.toArray w eg (cmp_lays w blk 0 _ c hc) hH hb.2 (by simp at hn ⊢; omega)
  change Calls Tryf.prog 29 _ _ _ at hcon
  refine hcon.mono ?_
  rintro e w' ⟨rfl, d', n, os, hp, hso, rfl⟩
  have hd : d'.toList.Perm l := by
    have h3 := hp.2.2
    rw [← hp.1] at h3
    simp only [Array.extract_size] at h3
    rw [hp.1] at h3
    simpa using h3
  refine ⟨rfl, d'.toList.map (·.1), hd.map _, ?_, ?_, t9_sortWorld _ w blk 0 n d' os c hc, rfl, rfl, rfl, size_sortWorld _ _ _ _ _ _ _, fun j hj hne => heap_sortWorld _ _ _ _ _ _ _ j hj (fun e => hne (by rw [e]))⟩
  · have hsz : d'.size = l.toArray.size := hp.1
    refine ⟨by simp [hsz], .inr ⟨blk, cap, _, rfl, hb.1, heap_sortWorld_row _ w blk 0 n d' os c 22 (0, 0) hc, hle, hcap, by simpa [putCells] using hcs, ?_⟩⟩
    apply List.ext_getElem?
    intro k
    rw [List.getElem?_take]
    by_cases hk : k < l.toArray.size
    · have hkd : k < d'.size := by omega
      rw [if_pos (by omega)]
      simp only [putCells, Array.getElem?_toList, Array.getElem?_mapIdx, List.getElem?_map]
      rw [Array.getElem?_eq_getElem (by omega), Option.map_some, if_pos (by omega), Nat.sub_zero, getElem!_pos d' k hkd, Array.getElem?_eq_getElem hkd]
      rfl
    · rw [if_neg (by omega), List.getElem?_eq_none]
      simp; omega
  · intro i j hij hj
    have hj' : j < d'.size := by simpa using hj
    have h3 := hso i j (Nat.zero_le _) hij (by rw [← hp.1]; exact hj')
    rw [getElem!_pos d' j hj', getElem!_pos d' i (by omega)] at h3
    have h4 : ¬ rc (elr d'[j]) (elr d'[i]) < 0 := of_decide_eq_false h3
    have n1 := rc_neg (elr d'[i]) (elr d'[j])
    have e1 : ((d'.toList.map (·.1)).getD i (.slice none 0 0, [])).2 = elr d'[i] := by simp [List.getD, elr, show i < d'.size by omega]
    have e2 : ((d'.toList.map (·.1)).getD j (.slice none 0 0, [])).2 = elr d'[j] := by simp [List.getD, elr, hj']
    rw [e1, e2]
    omega
end Go.Proofs.Qxb6614485aFmt
