/- kindForStrings (25), its closure (30), kindOf (31). -/
import Derived.Test.Qxb6614485aConj
import Derived.Test.Qxb6614485aOwn
import Derived.OneCell
import Derived.Deep.RegionHeld3
import Derived.Deep.RegionLaw
import Derived.Deep.AppendLies
import Derived.Test.Qxb6614485aAsk
namespace Go.Proofs.Qxb6614485a
open Go.RowKit
attribute [local go_sem] as_53_53 as_53_82 as_53_86 as_53_43 as_53_59 as_53_87 as_53_50 as_53_91 as_53_56 as_53_62 as_50_53 as_50_82 as_50_86 as_50_43 as_50_59 as_50_87 as_50_50 as_50_91 as_50_56 as_50_62 as_56_53 as_56_82 as_56_86 as_56_43 as_56_59 as_56_87 as_56_50 as_56_91 as_56_56 as_56_62 as_59_53 as_59_82 as_59_86 as_59_43 as_59_59 as_59_87 as_59_50 as_59_91 as_59_56 as_59_62 as_62_53 as_62_82 as_62_86 as_62_43 as_62_59 as_62_87 as_62_50 as_62_91 as_62_56 as_62_62 as_43_53 as_43_82 as_43_86 as_43_43 as_43_59 as_43_87 as_43_50 as_43_91 as_43_56 as_43_62
def ints (L : List Int) : List Value := L.map (Value.int .i64)
/-- the variable 'read': block R holds a slice of a row of the call's own, which holds L -/
structure Rd (w : World) (R base : Nat) (v : Value) (L : List Int) : Prop where
  blk : w.heap[R]? = some (.cells #[v] 23 (0, 0))
  own : w.ownsRow base 3 1 v L.length (ints L)
  lo : R < base
  hi : base ≤ w.heap.size
set_option maxHeartbeats 1000000 in
theorem kindOf_eq (w : World) : Calls Try.prog 31 #[.int .i64 0, .int .u8 1, .int .u8 1] w fun e w' => e = .returned (.tuple #[.int .u8 3, .bool true]) ∧ w = w' := by
  go_enter Try.func31, Try.ntmps31
  go_wp2
  go_ret2
  exact ⟨rfl, rfl⟩
set_option maxHeartbeats 1000000 in
set_option maxRecDepth 100000 in
theorem leaf_rule (w : World) (k off : Nat) (i : Int) (R : Nat) (hc : w.cell? ⟨k, off, none⟩ = some (fieldV true i)) (hk : k < w.heap.size) :
    Calls Try.prog 25 #[.pointer (some ⟨k, off, none⟩), .pointer (some ⟨R, 0, none⟩)] w fun e w' => e = .returned (.int .u8 1) ∧ Below w.heap.size w w' := by
  go_enter Try.func25, Try.ntmps25
  go_wp2
  go_ret
  exact ⟨rfl, below2 _ _ _⟩
theorem Try.info3 : (Try.prog.info? 3).map (fun i => (i.zero, i.size, i.bytes)) = some (some (.int .i64 0), 1, 8) := by kernel_rfl
theorem World.new3 (w : World) (o p q : Obj) : (((w.alloc o).alloc p).alloc q).drew.heap[w.heap.size + 2]? = some q := by
  have h := heap_alloc_new ((w.alloc o).alloc p) q
  simp only [World.size_alloc] at h
  exact h
/-- the cells that the append's statement reads, behind the append -/
theorem keep_leaf {w w1 : World} {R base N : Nat} {L : List Int} {i : Int} {v v' : Value} (hst : Step (fun _ => False) (((w.alloc (.cells #[.pointer (some ⟨R, 0, none⟩)] 69)).alloc (.cells #[.bool false, .int .i64 i] 53)).alloc (.cells #[.int .i64 i] 3)).drew w1 v v' N)
    (hr : Rd w R base v L) :
    (w1.cell? ⟨w.heap.size, 0, none⟩ = some (.pointer (some ⟨R, 0, none⟩)) ∧ w1.cell? ⟨R, 0, none⟩ = some v ∧ w1.cell? ⟨w.heap.size + 1, 1, none⟩ = some (.int .i64 i)) ∧ w1.frozen? ⟨R, 0, none⟩ = false := by
  have hRl := lt_of_block hr.blk
  have hv := hr.own.lt
  have hlo := hr.lo
  have hb : ∀ j, j < w.heap.size + 2 → j ≠ R → (w.heap.size ≤ j ∨ j < base) → w1.heap[j]? = ((w.alloc (.cells #[.pointer (some ⟨R, 0, none⟩)] 69)).alloc (.cells #[.bool false, .int .i64 i] 53)).heap[j]? := by
    intro j h1 h2 h3
    rw [hst.kept.block j (by simp; omega) (fun hx => ?_)]
    · exact Below.heap_alloc _ _ _ (by simp; omega)
    · rcases hx with hx | hx
      · exact hx
      · have := hv j hx.symm
        omega
  have hbR : w1.heap[R]? = w.heap[R]? := by
    rw [hst.kept.block R (by simp; omega) (fun hx => ?_)]
    · show (((w.alloc _).alloc _).alloc _).heap[R]? = _
      rw [Below.heap_alloc _ _ _ (by simp; omega), Below.heap_alloc _ _ _ (by simp; omega), Below.heap_alloc _ _ _ hRl]
    · rcases hx with hx | hx
      · exact hx
      · have := hv R hx.symm
        omega
  refine ⟨⟨?_, ?_, ?_⟩, ?_⟩
  · rw [World.cell?_of_block (w := (w.alloc (.cells #[.pointer (some ⟨R, 0, none⟩)] 69)).alloc (.cells #[.bool false, .int .i64 i] 53)) (hb _ (by simp) (by simp; omega) (by simp))]; simp
  · rw [World.cell?_of_block (w := w) hbR]; exact cell_of_one hr.blk
  · rw [World.cell?_of_block (w := (w.alloc (.cells #[.pointer (some ⟨R, 0, none⟩)] 69)).alloc (.cells #[.bool false, .int .i64 i] 53)) (hb _ (by simp) (by simp; omega) (by simp))]; simp
  · rw [World.frozen?_of_block (w := w) hbR]; exact free_of_one hr.blk
theorem kept3 (w : World) (o p q : Obj) (S : Nat → Prop) : Kept w (((w.alloc o).alloc p).alloc q).drew S := ((((Kept.refl w S).alloc o).alloc p).alloc q).drew
theorem leaf_end {w w3 w1 : World} {R base : Nat} {i : Int} {v v' : Value} {L : List Int} (hr : Rd w R base v L) (h3 : Kept w w3 (fun _ => False))
    (hst : Step (fun _ => False) w3 w1 v v' (L.length * 1)) (ho : w1.ownsRow base 3 1 v' (L.length + 1) (ints L ++ [.int .i64 i])) :
    Rd (w1.setCell ⟨R, 0, none⟩ v') R base v' (L ++ [i]) ∧ Step (· = R) w (w1.setCell ⟨R, 0, none⟩ v') v v' L.length := by
  have hlt := lt_of_block hr.blk
  have hv := hr.own.lt
  have hlo := hr.lo
  have hblk : w1.heap[R]? = some (.cells #[v] 23 (0, 0)) := by
    rw [hst.kept.block R (Nat.lt_of_lt_of_le hlt h3.size) (fun hx => ?_), h3.block R hlt (by simp)]
    · exact hr.blk
    · rcases hx with hx | hx
      · exact hx
      · have := hv R hx.symm
        omega
  have hset : Kept w1 (w1.setCell ⟨R, 0, none⟩ v') (· = R) := (Kept.refl w1 _).setCell _ _ rfl
  refine ⟨⟨?_, ?_, hlo, ?_⟩, ?_⟩
  · have := heap_setCell_same w1 R 0 #[v] 23 v' hblk
    simpa using this
  · have := hset.owns ho (fun j hj => by rw [hj]; exact hlo)
    simpa [ints] using this
  · have := hr.hi
    have := h3.size
    have := hst.kept.size
    simp
    omega
  · have a1 : Step (· = R) w w3 v v L.length := (Step.refl _ v _ h3).mono (fun _ h => h.elim)
    have a2 : Step (· = R) w3 w1 v v' L.length := by have := hst.mono (T := (· = R)) (fun _ h => h.elim); simpa using this
    exact (a1.trans a2 (Nat.le_refl _)).trans (Step.refl _ v' L.length hset) (Nat.le_refl _)
theorem owns2 {w : World} {base : Nat} {e : TypeId} {size n : Nat} {v : Value} {xs : List Value} (h : w.ownsRow base e size v n xs) (o p q : Obj) : ((((w.alloc o).alloc p).alloc q)).drew.ownsRow base e size v n xs :=
  ((((h.alloc o).alloc p).alloc q)).drew
set_option maxHeartbeats 1000000 in
set_option maxRecDepth 100000 in
theorem leaf_req (w : World) (k off : Nat) (i : Int) (R base : Nat) (v : Value) (L : List Int) (hc : w.cell? ⟨k, off, none⟩ = some (fieldV false i)) (hk : k < w.heap.size) (hr : Rd w R base v L) (hL : L.length ≤ 1000000) :
    Calls Try.prog 25 #[.pointer (some ⟨k, off, none⟩), .pointer (some ⟨R, 0, none⟩)] w fun e w' => e = .returned (.int .u8 1) ∧ ∃ v', Rd w' R base v' (L ++ [i]) ∧ Step (· = R) w w' v v' L.length := by
  obtain ⟨i0, hi0, hz0, hz1, hz2⟩ := info_parts Try.info3
  have hR := cell_of_one hr.blk
  have hF := free_of_one hr.blk
  have hRl := lt_of_block hr.blk
  have HR : Hid (Rd w R base v L) := hr
  have hRk : ∀ o1 o2 o3, (((w.alloc o1).alloc o2).alloc o3).cell? ⟨R, 0, none⟩ = some v := fun o1 o2 o3 => by
    rw [World.cell?_of_block (w := w) (by rw [Below.heap_alloc _ _ _ (by simp; omega), Below.heap_alloc _ _ _ (by simp; omega), Below.heap_alloc _ _ _ hRl])]; exact hR
  clear hr
  go_enter Try.func25, Try.ntmps25
  go_wp2_with fail
  go_region_law
    ((refine step_append_step _ (by rfl) _ _ _ (by rfl) base 3 i0 _ 1 8 Try.underlying23 hi0 hz0 hz1 hz2 rfl (by omega) v L.length (ints L) (by rfl) (owns2 HR.out.own _ _ _)
        ⟨w.heap.size + 2, 0, none⟩ 1 1 [.int .i64 i] (by rfl) (by rfl) (World.news_of_block (cs := #[.int .i64 i]) (t := 3) (fr := (0, 0)) (World.new3 _ _ _ _)) (by simp [Value.oneCell'])
        (by simp [maxLen]; omega) (by omega) (by have := HR.out.hi; simp; omega) ?_; intro v' w1 hown1 hst; obtain ⟨g1, c1, rfl⟩ := owns_form hown1 (by omega); have hF1 := (keep_leaf hst HR.out).2; have hC1 := (keep_leaf hst HR.out).1.2.1; have hC0 := (keep_leaf hst HR.out).1.1))
  all_goals (go_wp2_with fail; go_ret; exact ⟨rfl, _, leaf_end HR.out (kept3 w _ _ _ _) hst hown1⟩)
end Go.Proofs.Qxb6614485a
