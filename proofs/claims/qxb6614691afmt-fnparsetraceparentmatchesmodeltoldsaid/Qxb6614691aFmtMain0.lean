/- The main function (3): what is known of the blocks. -/
import Derived.Test.Qxb6614691aFmtSelf
import Derived.Deep.MidRow
namespace Go.Proofs.Qxb6614691aFmt
open Go.RowKit
theorem Tryf.size23' : (Tryf.prog.info? 23).map (·.size) = some 16 := by kernel_rfl
theorem Tryf.size24' : (Tryf.prog.info? 24).map (·.size) = some 16 := by kernel_rfl
theorem Tryf.size25' : (Tryf.prog.info? 25).map (·.size) = some 8 := by kernel_rfl
theorem Tryf.size26' : (Tryf.prog.info? 26).map (·.size) = some 8 := by kernel_rfl
theorem Tryf.size29' : (Tryf.prog.info? 29).map (·.size) = some 1 := by kernel_rfl
/-- what is known behind the model's call -/
structure J (w wx : World) (n : Nat) (A B : Array Value) : Prop where
  none : wx.heap[w.heap.size]? = some (.cells zeroCtx 31 (0, 0))
  tr : wx.heap[n]? = some (.cells A 23 (0, 0))
  sp : wx.heap[n + 1]? = some (.cells B 25 (0, 0))
  below : Below w.heap.size w wx
  lo : w.heap.size < n
  hi : n + 2 ≤ wx.heap.size
theorem lay_two {w w1 w2 w3 : World} {A B : Array Value} (hb : Below (w.alloc (.cells zeroCtx 31)).heap.size (w.alloc (.cells zeroCtx 31)) w1)
    (h2 : w2.heap[w1.heap.size]? = some (.cells A 23 (0, 0))) (hg2 : ((w1.alloc (.cells zero16 23)).alloc (.cells zero8 25)).grownBy w2 (some w1.heap.size))
    (h3 : w3.heap[w1.heap.size + 1]? = some (.cells B 25 (0, 0))) (hg3 : w2.grownBy w3 (some (w1.heap.size + 1))) : J w w3 w1.heap.size A B := by
  have s1 := hb.size
  have s2 := hg2.size
  have s3 := hg3.size
  simp at s1 s2
  have b1 : Below w.heap.size w ((w1.alloc (.cells zero16 23)).alloc (.cells zero8 25)) := ((((Below.refl _ _).alloc (Nat.le_refl _) _).trans (hb.mono (by simp))).alloc (by omega) _).alloc (by simp; omega) _
  have b2 : Below w.heap.size w w2 := b1.grown hg2 (by simp; omega) (fun k h => by cases h; omega)
  refine ⟨?_, ?_, h3, b2.grown hg3 (by omega) (fun k h => by cases h; omega), by omega, by omega⟩
  · rw [hg3.block _ (by omega) (by simp; omega), hg2.block _ (by simp; omega) (by simp; omega), Below.heap_alloc _ _ _ (by simp; omega), Below.heap_alloc _ _ _ (by omega), hb.block _ (by simp)]
    exact heap_alloc_new _ _
  · rw [hg3.block _ (by omega) (by simp)]; exact h2
/-- what is known behind ParseTraceparent's call -/
structure J2 (w wx : World) (n m : Nat) (A B C : Array Value) : Prop where
  none : wx.heap[w.heap.size]? = some (.cells zeroCtx 31 (0, 0))
  tr : wx.heap[n]? = some (.cells A 23 (0, 0))
  sp : wx.heap[n + 1]? = some (.cells B 25 (0, 0))
  ctx : wx.heap[m]? = some (.cells C 31 (0, 0))
  below : Below w.heap.size w wx
  lo : w.heap.size < m
  mid : n + 2 ≤ m
  hi : m + 1 ≤ wx.heap.size
theorem lay_ctx {w w3 w4 w5 : World} {n : Nat} {A B C : Array Value} (h : J w w3 n A B) (hb : Below w3.heap.size w3 w4) (h5 : w5.heap[w4.heap.size]? = some (.cells C 31 (0, 0)))
    (hg : (w4.alloc (.cells zeroCtx 31)).grownBy w5 (some w4.heap.size)) : J2 w w5 n w4.heap.size A B C := by
  have s1 := hb.size
  have s2 := hg.size
  have s3 := h.hi
  have s4 := h.lo
  simp at s2
  have key : ∀ k, k < w3.heap.size → w5.heap[k]? = w3.heap[k]? := fun k hk => by rw [hg.block _ (by simp; omega) (by simp; omega), Below.heap_alloc _ _ _ (by omega), hb.block _ hk]
  refine ⟨by rw [key _ (by omega)]; exact h.none, by rw [key _ (by omega)]; exact h.tr, by rw [key _ (by omega)]; exact h.sp, h5, ?_, by omega, by omega, by omega⟩
  exact ((h.below.trans (hb.mono (by omega))).alloc (by omega) _).grown hg (by simp; omega) (fun k h => by cases h; omega)
/-- what is known behind the second call of ParseTraceparent -/
structure J3 (w wx : World) (m q : Nat) (C D : Array Value) : Prop where
  none : wx.heap[w.heap.size]? = some (.cells zeroCtx 31 (0, 0))
  ctx : wx.heap[m]? = some (.cells C 31 (0, 0))
  two : wx.heap[q]? = some (.cells D 31 (0, 0))
  below : Below w.heap.size w wx
theorem lay_two_ctx {w w3 w4 w5 : World} {n m : Nat} {A B C D : Array Value} (h : J2 w w3 n m A B C) (hb : Below w3.heap.size w3 w4) (h5 : w5.heap[w4.heap.size]? = some (.cells D 31 (0, 0)))
    (hg : (w4.alloc (.cells zeroCtx 31)).grownBy w5 (some w4.heap.size)) : J3 w w5 m w4.heap.size C D := by
  have s1 := hb.size
  have s2 := hg.size
  have s3 := h.hi
  have s4 := h.lo
  simp at s2
  have key : ∀ k, k < w3.heap.size → w5.heap[k]? = w3.heap[k]? := fun k hk => by rw [hg.block _ (by simp; omega) (by simp; omega), Below.heap_alloc _ _ _ (by omega), hb.block _ hk]
  refine ⟨by rw [key _ (by omega)]; exact h.none, by rw [key _ (by omega)]; exact h.ctx, h5, ?_⟩
  exact ((h.below.trans (hb.mono (by omega))).alloc (by omega) _).grown hg (by simp; omega) (fun k h => by cases h; omega)
theorem wpList_mid_w {P : Program} {ops : Array Oper} {rest : List Oper} {op : Oper} {a : Act} {w : World} {Q : Exit → Act → World → Prop} (hw : Region.wanted op (yielded ops a.tmps) = true) (ty : TypeId) (x : Operand) (ho : op.op = .load ty x)
    (b o : Nat) (hx : a.eval x = .pointer (some ⟨b, o, none⟩)) (cs : List Value) (d : TypeDesc) (hc : w.rangeAt b o cs)
    (hu : P.underlying ty = some d) (hd : d.isRow = true) (hi : (P.info? ty).map (·.size) = some cs.length)
    (h : wpList P ops Q rest (a.put op.dst (.agg cs.toArray)) w) : wpList P ops Q (op :: rest) a w :=
  wpList_step fun _ hK => by rw [if_pos hw]; exact wp_load_mid ty x ho b o hx cs d hc hu hd hi (hK _ _ h)
theorem wpList_row_w {P : Program} {ops : Array Oper} {rest : List Oper} {o : Oper} {a : Act} {w : World} {Q : Exit → Act → World → Prop} (hw : Region.wanted o (yielded ops a.tmps) = true) (ty : TypeId) (x : Operand) (ho : o.op = .load ty x)
    (g : Nat) (hx : a.eval x = .pointer (some ⟨g, 0, none⟩)) (t : TypeId) (cs : Array Value) (fr : Nat × Nat) (d : TypeDesc) (hg : w.heap[g]? = some (.cells cs t fr))
    (hu : P.underlying ty = some d) (hd : (match d with | .struct _ | .array _ _ => true | _ => false) = true) (hi : (P.info? ty).map (·.size) = some cs.size)
    (h : wpList P ops Q rest (a.put o.dst (.agg cs)) w) : wpList P ops Q (o :: rest) a w :=
  wpList_step fun _ hK => by rw [if_pos hw]; exact wp_load_row ty x ho g hx t cs fr d hg hu hd hi (hK _ _ h)
/-- the parts of a SpanContext in its block -/
theorem ctx_parts {w : World} {m : Nat} {s : ByteArray} (h : w.heap[m]? = some (.cells (ctxOf s) 31 (0, 0))) :
    w.rangeAt m 0 (trL s) ∧ w.rangeAt m 16 (spL s) ∧ w.cell? ⟨m, 24, none⟩ = some (.int .u8 (bits .and .u8 (pair s 53) 3)) ∧ w.rangeAt m 25 [.string ⟨#[]⟩] ∧ w.cell? ⟨m, 26, none⟩ = some (.bool false) := by
  have ht : (trL s).length = 16 := by simp [trL]
  have hs : (spL s).length = 8 := by simp [spL]
  have hc := fun j => cell_of_row w m j _ 31 (0, 0) h
  refine ⟨fun j v hj => ?_, fun j v hj => ?_, ?_, fun j v hj => ?_, ?_⟩
  · have hl := (List.getElem?_eq_some_iff.1 hj).1
    rw [hc, ← hj, Nat.zero_add]
    simp only [ctxOf, List.getElem?_toArray]
    rw [List.append_assoc, List.getElem?_append_left hl]
  · have hl := (List.getElem?_eq_some_iff.1 hj).1
    rw [hc, ← hj]
    simp only [ctxOf, List.getElem?_toArray]
    rw [List.append_assoc, List.getElem?_append_right (by omega), List.getElem?_append_left (by omega), ht, Nat.add_sub_cancel_left]
  · rw [hc]; simp [ctxOf, ht, hs, flV]
  · have hl := (List.getElem?_eq_some_iff.1 hj).1
    obtain rfl : j = 0 := by simp at hl; omega
    rw [hc, ← hj]; simp [ctxOf, ht, hs]
  · rw [hc]; simp [ctxOf, ht, hs]
theorem J2.keep {w w5 w6 : World} {n m : Nat} {A B C : Array Value} (h : J2 w w5 n m A B C) (hb : Below w5.heap.size w5 w6) : J2 w w6 n m A B C := by
  have s1 := hb.size
  have s3 := h.hi
  have s4 := h.lo
  have s5 := h.mid
  exact ⟨by rw [hb.block _ (by omega)]; exact h.none, by rw [hb.block _ (by omega)]; exact h.tr, by rw [hb.block _ (by omega)]; exact h.sp, by rw [hb.block _ (by omega)]; exact h.ctx, h.below.trans (hb.mono (by omega)), by omega, by omega, by omega⟩
set_option maxHeartbeats 4000000 in
/-- TraceState.String (7), of the empty state -/
theorem tstate (w : World) : Calls Tryf.prog 7 #[.agg #[.string ⟨#[]⟩]] w fun e w' => e = .returned (.string ⟨#[]⟩) ∧ Below w.heap.size w w' := by
  go_enter Tryf.func7, Tryf.ntmps7
  go_wp2
  go_ret
  exact ⟨rfl, (Below.refl _ _).alloc (Nat.le_refl _) _⟩
end Go.Proofs.Qxb6614691aFmt
