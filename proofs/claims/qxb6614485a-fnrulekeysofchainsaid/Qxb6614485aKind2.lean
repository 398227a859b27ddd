/- kindForStrings (25) at a binary. -/
import Derived.Test.Qxb6614485aKind
namespace Go.Proofs.Qxb6614485a
open Go.RowKit
attribute [local go_sem] as_53_53 as_53_82 as_53_86 as_53_43 as_53_59 as_53_87 as_53_50 as_53_91 as_53_56 as_53_62 as_50_53 as_50_82 as_50_86 as_50_43 as_50_59 as_50_87 as_50_50 as_50_91 as_50_56 as_50_62 as_56_53 as_56_82 as_56_86 as_56_43 as_56_59 as_56_87 as_56_50 as_56_91 as_56_56 as_56_62 as_59_53 as_59_82 as_59_86 as_59_43 as_59_59 as_59_87 as_59_50 as_59_91 as_59_56 as_59_62 as_62_53 as_62_82 as_62_86 as_62_43 as_62_59 as_62_87 as_62_50 as_62_91 as_62_56 as_62_62 as_43_53 as_43_82 as_43_86 as_43_43 as_43_59 as_43_87 as_43_50 as_43_91 as_43_56 as_43_62
theorem hid {p : Prop} (h : p) : Hid p := h
theorem Rd.kept {w w' : World} {R base : Nat} {v : Value} {L : List Int} (h : Rd w R base v L) (hk : Kept w w' (fun _ => False)) : Rd w' R base v L :=
  ⟨by rw [hk.block R (lt_of_block h.blk) (by simp)]; exact h.blk, hk.owns h.own (fun _ h => h.elim), h.lo, Nat.le_trans h.hi hk.size⟩
theorem Rd.below {w w' : World} {R base : Nat} {v : Value} {L : List Int} (h : Rd w R base v L) (hk : Below w.heap.size w w') : Rd w' R base v L :=
  h.kept (Kept.ofBelow hk _ (fun j h1 h2 => by omega))
theorem kept1 (w : World) (o : Obj) (S : Nat → Prop) : Kept w (w.alloc o).drew S := ((Kept.refl w S).alloc o).drew
theorem kept0 (w : World) (o : Obj) (S : Nat → Prop) : Kept w (w.alloc o) S := (Kept.refl w S).alloc o
/-- blocks below R stay as they are -/
theorem Step.low {w w' : World} {R base : Nat} {v v' : Value} {L : List Int} {N : Nat} (h : Step (· = R) w w' v v' N) (hr : Rd w R base v L) (j : Nat) (hj : j < R) : w'.heap[j]? = w.heap[j]? := by
  have := lt_of_block hr.blk
  refine h.kept.block j (by omega) (fun hx => ?_)
  rcases hx with hx | hx
  · omega
  · have := hr.own.lt j hx.symm
    have := hr.lo
    omega
/-- so does a block that was made beside them -/
theorem Step.side {w0 w w' : World} {R base : Nat} {v v' : Value} {L : List Int} {N : Nat} (h : Step (· = R) w w' v v' N) (hr : Rd w0 R base v L) (j : Nat) (hj : w0.heap.size ≤ j) (hl : j < w.heap.size) : w'.heap[j]? = w.heap[j]? := by
  have := lt_of_block hr.blk
  refine h.kept.block j hl (fun hx => ?_)
  rcases hx with hx | hx
  · omega
  · have := hr.own.lt j hx.symm
    omega
abbrev boxO (R : Nat) : Obj := .cells #[.pointer (some ⟨R, 0, none⟩)] 69
theorem bin_cells {w : World} {k : Nat} {y z : Value} (h : w.heap[k]? = some (.cells (binC y z) 55 (0, 0))) : w.cell? ⟨k, 0, none⟩ = some (.int .i64 0) ∧ w.cell? ⟨k, 1, none⟩ = some y ∧ w.cell? ⟨k, 5, none⟩ = some z := by
  refine ⟨?_, ?_, ?_⟩ <;> (rw [cell_of_row w k _ _ 55 (0, 0) h]; rfl)
/-- behind the first call, which only makes new blocks -/
theorem after1 {w w1 : World} {R k base : Nat} {y z v : Value} {L : List Int} (hr : Rd w R base v L) (hx : w.heap[k]? = some (.cells (binC y z) 55 (0, 0)))
    (hb : Below (w.alloc (boxO R)).drew.heap.size (w.alloc (boxO R)).drew w1) : Kept w w1 (fun _ => False) ∧ Rd w1 R base v L ∧ w1.heap[k]? = some (.cells (binC y z) 55 (0, 0)) ∧ w1.heap[w.heap.size]? = some (boxO R) := by
  have st : Kept w w1 (fun _ => False) := (kept1 w (boxO R) _).trans (T := fun _ => False) (Kept.ofBelow hb _ (fun j h1 h2 => by omega)) (fun _ _ h => h)
  refine ⟨st, hr.kept st, by rw [st.block k (lt_of_block hx) (by simp)]; exact hx, ?_⟩
  rw [hb.block _ (by simp)]
  exact heap_alloc_new w (boxO R)
/-- behind the second call, which adds to what was read -/
theorem after2 {w w1 w2 : World} {R k base : Nat} {y z v v' : Value} {L : List Int} (hr : Rd w R base v L) (hk : k < R) (h1 : Kept w w1 (fun _ => False)) (hx : w1.heap[k]? = some (.cells (binC y z) 55 (0, 0))) (hbx : w1.heap[w.heap.size]? = some (boxO R))
    (hs : Step (· = R) w1 w2 v v' L.length) : w2.heap[k]? = some (.cells (binC y z) 55 (0, 0)) ∧ w2.heap[w.heap.size]? = some (boxO R) ∧ Step (· = R) w w2 v v' L.length :=
  ⟨by rw [hs.low (hr.kept h1) k hk]; exact hx, by rw [hs.side hr _ (Nat.le_refl _) (Array.getElem?_eq_some_iff.1 hbx).1]; exact hbx, ((Step.refl (fun _ => False) v L.length h1).mono (fun _ h => h.elim)).trans hs (Nat.le_refl _)⟩
theorem box_cell {w : World} {n R : Nat} (h : w.heap[n]? = some (boxO R)) : w.cell? ⟨n, 0, none⟩ = some (.pointer (some ⟨R, 0, none⟩)) := cell_of_one h
set_option maxHeartbeats 1000000 in
set_option maxRecDepth 100000 in
theorem kind0 (w : World) (p q k R base : Nat) (a b : Int) (v : Value) (L : List Int) (hc : w.cell? ⟨p, q, none⟩ = some (.iface 50 (.pointer (some ⟨k, 0, none⟩)))) (hp : p < w.heap.size)
    (hx : w.heap[k]? = some (.cells (binC (fieldV true a) (fieldV false b)) 55 (0, 0))) (hk : k < R) (hr : Rd w R base v L) (hL : L.length ≤ 1000000) :
    Calls Try.prog 25 #[.pointer (some ⟨p, q, none⟩), .pointer (some ⟨R, 0, none⟩)] w fun e w' => e = .returned (.int .u8 3) ∧ ∃ v', Rd w' R base v' (L ++ [b]) ∧ Step (· = R) w w' v v' L.length := by
  have hRl := lt_of_block hr.blk
  have HR : Hid (Rd w R base v L) := hr
  have HX : Hid (w.heap[k]? = some (.cells (binC (fieldV true a) (fieldV false b)) 55 (0, 0))) := hx
  have HX1 : Hid ((w.alloc (boxO R)).drew.heap[k]? = some (.cells (binC (fieldV true a) (fieldV false b)) 55 (0, 0))) := ((kept1 w (boxO R) (fun _ => False)).block k (by omega) (by simp)).trans hx
  clear hr hx
  go_enter Try.func25, Try.ntmps25
  go_wp2_with fail
  go_region_held3 (fun w' => w'.cell? ⟨w.heap.size, 0, none⟩ = some (.pointer (some ⟨R, 0, none⟩)))
    (first
      | exact box_cell A2.out.2.1
      | exact box_cell A1.out.2.2.2
      | go_keep)
    (first
      | (go_at_call 25; refine (leaf_req _ k 5 b R base v L (bin_cells A1.out.2.2.1).2.2 (lt_of_block A1.out.2.2.1) A1.out.2.1 hL).mono ?_; rintro e w2 ⟨rfl, v', hr2, hs2⟩; have A2 := hid (after2 HR.out hk A1.out.1 A1.out.2.2.1 A1.out.2.2.2 hs2); have HR2 : Hid (Rd w2 R base v' (L ++ [b])) := hr2; clear hr2 hs2)
      | (go_at_call 25; refine (leaf_rule _ k 1 a R (bin_cells HX1.out).2.1 (by simp; omega)).mono ?_; rintro e w1 ⟨rfl, hb1⟩; have A1 := hid (after1 HR.out HX.out hb1); clear hb1))
  have hop := (bin_cells A2.out.1).1
  go_wp2_with (go_at_call 31; refine (kindOf_eq _).mono ?_; rintro e w3 ⟨rfl, rfl⟩)
  go_ret
  exact ⟨rfl, v', HR2.out, A2.out.2.2⟩
end Go.Proofs.Qxb6614485a
