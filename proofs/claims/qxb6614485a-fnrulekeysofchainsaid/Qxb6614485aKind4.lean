/- kindForStrings (25) at a role function, at a negation, at a pattern that the request gives. -/
import Derived.Test.Qxb6614485aKind3
import Derived.BigRegion
namespace Go.Proofs.Qxb6614485a
open Go.RowKit
attribute [local go_sem] as_53_53 as_53_82 as_53_86 as_53_43 as_53_59 as_53_87 as_53_50 as_53_91 as_53_56 as_53_62 as_50_53 as_50_82 as_50_86 as_50_43 as_50_59 as_50_87 as_50_50 as_50_91 as_50_56 as_50_62 as_56_53 as_56_82 as_56_86 as_56_43 as_56_59 as_56_87 as_56_50 as_56_91 as_56_56 as_56_62 as_59_53 as_59_82 as_59_86 as_59_43 as_59_59 as_59_87 as_59_50 as_59_91 as_59_56 as_59_62 as_62_53 as_62_82 as_62_86 as_62_43 as_62_59 as_62_87 as_62_50 as_62_91 as_62_56 as_62_62 as_43_53 as_43_82 as_43_86 as_43_43 as_43_59 as_43_87 as_43_50 as_43_91 as_43_56 as_43_62
theorem role_cells {w : World} {k : Nat} {y z : Value} (h : w.heap[k]? = some (.cells (roleC y z) 58 (0, 0))) : w.cell? ⟨k, 1, none⟩ = some y ∧ w.cell? ⟨k, 2, none⟩ = some (.string ⟨#[]⟩) ∧ w.cell? ⟨k, 3, none⟩ = some (.int .u8 0) ∧ w.cell? ⟨k, 4, none⟩ = some (.int .i64 0) ∧
    w.cell? ⟨k, 5, none⟩ = some z ∧ w.cell? ⟨k, 6, none⟩ = some (.string ⟨#[]⟩) ∧ w.cell? ⟨k, 7, none⟩ = some (.int .u8 0) ∧ w.cell? ⟨k, 8, none⟩ = some (.int .i64 0) ∧ w.cell? ⟨k, 9, none⟩ = some (.pointer none) := by
  refine ⟨?_, ?_, ?_, ?_, ?_, ?_, ?_, ?_, ?_⟩ <;> (rw [cell_of_row w k _ _ 58 (0, 0) h]; rfl)
theorem kept2 (w : World) (o p : Obj) (S : Nat → Prop) : Kept w ((w.alloc o).alloc p) S := ((Kept.refl w S).alloc o).alloc p
theorem kept2d (w : World) (o p : Obj) (S : Nat → Prop) : Kept w ((w.alloc o).alloc p).drew S := (kept2 w o p S).drew
theorem new_ne {w : World} {R base : Nat} {v : Value} {L : List Int} (hr : Rd w R base v L) (j : Nat) (hj : w.heap.size ≤ j) : j ≠ R ∧ some j ≠ v.ownBlock := by
  have := lt_of_block hr.blk
  refine ⟨by omega, fun h => ?_⟩
  have := hr.own.lt j h.symm
  omega
/-- the closure's call at a role function -/
theorem role_call (w : World) (R base : Nat) (a b : Int) (v : Value) (L : List Int) (hr : Rd w R base v L) (hL : L.length ≤ 1000000) :
    Calls Try.prog 30 #[.int .u8 1, .slice (some ⟨w.heap.size + 1, 0, none⟩) 2 2, .pointer (some ⟨w.heap.size, 0, none⟩)]
      ((w.alloc (boxO R)).alloc (.cells #[fieldV false b, .string ⟨#[]⟩, .int .u8 0, .int .i64 0, fieldV true a, .string ⟨#[]⟩, .int .u8 0, .int .i64 0] 30)).drew
      fun e w' => e = .returned (.bool true) ∧ ∃ v', Rd w' R base v' (L ++ [b]) ∧ Step (· = R) w w' v v' L.length := by
  have hg : ((w.alloc (boxO R)).alloc (.cells #[fieldV false b, .string ⟨#[]⟩, .int .u8 0, .int .i64 0, fieldV true a, .string ⟨#[]⟩, .int .u8 0, .int .i64 0] 30)).drew.heap[w.heap.size + 1]? = some (.cells #[fieldV false b, .string ⟨#[]⟩, .int .u8 0, .int .i64 0, fieldV true a, .string ⟨#[]⟩, .int .u8 0, .int .i64 0] 30 (0, 0)) := heap_alloc2_new _ _ _
  have hst := kept2d w (boxO R) (.cells #[fieldV false b, .string ⟨#[]⟩, .int .u8 0, .int .i64 0, fieldV true a, .string ⟨#[]⟩, .int .u8 0, .int .i64 0] 30) (fun _ => False)
  refine (ofKind2 _ (w.heap.size + 1) w.heap.size R base a b v L (by rw [cell_of_row _ _ _ _ 30 (0, 0) hg]; rfl) (by rw [cell_of_row _ _ _ _ 30 (0, 0) hg]; rfl) (lt_of_block hg) (heap_alloc2_old _ _ _)
    (new_ne hr _ (by omega)).1 (new_ne hr _ (by omega)).2 (new_ne hr _ (by omega)).1 (new_ne hr _ (by omega)).2 (hr.kept hst) hL).mono ?_
  rintro e w' ⟨he, v', h1, h2⟩
  exact ⟨he, v', h1, ((Step.refl (fun _ => False) v L.length hst).mono (fun _ h => h.elim)).trans h2 (Nat.le_refl _)⟩
set_option maxHeartbeats 1000000 in
set_option maxRecDepth 100000 in
theorem kind2 (w : World) (p q k R base : Nat) (a b : Int) (v : Value) (L : List Int) (hc : w.cell? ⟨p, q, none⟩ = some (.iface 56 (.pointer (some ⟨k, 0, none⟩)))) (hp : p < w.heap.size)
    (hx : w.heap[k]? = some (.cells (roleC (fieldV false b) (fieldV true a)) 58 (0, 0))) (hr : Rd w R base v L) (hL : L.length ≤ 1000000) :
    Calls Try.prog 25 #[.pointer (some ⟨p, q, none⟩), .pointer (some ⟨R, 0, none⟩)] w fun e w' => e = .returned (.int .u8 3) ∧ ∃ v', Rd w' R base v' (L ++ [b]) ∧ Step (· = R) w w' v v' L.length := by
  have hRl := lt_of_block hr.blk
  have hkl := lt_of_block hx
  obtain ⟨c1, c2, c3, c4, c5, c6, c7, c8, c9⟩ := role_cells hx
  have HC := hid (role_call w R base a b v L hr hL)
  clear hr hx
  go_enter Try.func25, Try.ntmps25
  go_wp2_with fail
  go_region
  go_wp2_with (go_at_call 30; refine HC.out.mono ?_; rintro e w1 ⟨rfl, HE⟩; have HE2 := hid HE; clear HE)
  go_ret
  exact ⟨rfl, HE2.out⟩
set_option maxHeartbeats 1000000 in
set_option maxRecDepth 100000 in
/-- the closure ofKind (30), at a role function -/
theorem ofKind1 (w : World) (g n k R base : Nat) (a b : Int) (v : Value) (L : List Int) (h0 : w.cell? ⟨g, 0, none⟩ = some (.iface 56 (.pointer (some ⟨k, 0, none⟩)))) (hx : w.heap[k]? = some (.cells (roleC (fieldV false b) (fieldV true a)) 58 (0, 0)))
    (hg : g < w.heap.size) (hn : w.heap[n]? = some (boxO R)) (hgR : g ≠ R) (hgv : some g ≠ v.ownBlock) (hnR : n ≠ R) (hnv : some n ≠ v.ownBlock) (hr : Rd w R base v L) (hL : L.length ≤ 1000000) :
    Calls Try.prog 30 #[.int .u8 3, .slice (some ⟨g, 0, none⟩) 1 1, .pointer (some ⟨n, 0, none⟩)] w fun e w' => e = .returned (.bool true) ∧ ∃ v', Rd w' R base v' (L ++ [b]) ∧ Step (· = R) w w' v v' L.length := by
  have hbx := box_cell hn
  have HR := hid hr
  have HN := hid hn
  have HG := hid hgv
  have HV := hid hnv
  have HX := hid hx
  clear hr hn hgv hnv hx
  go_enter Try.func30, Try.ntmps30
  go_wp2_with fail
  refine wp_loop_rounds 2 ?_
  rw [rounds_succ]
  go_wp2_with fail
  go_region_held3 (fun w' => w'.cell? ⟨n, 0, none⟩ = some (.pointer (some ⟨R, 0, none⟩)))
    (first
      | exact box_cell A1.out.2.2.1
      | go_keep)
    (first
      | (go_at_call 25; refine (kind2 w.drew g 0 k R base a b v L h0 hg HX.out HR.out.drew hL).mono ?_; rintro e w1 ⟨rfl, v', hr2, hs2⟩; have A1 := hid (after5 hs2 hr2 hg HN.out hgR HG.out hnR HV.out); clear hr2 hs2))
  go_wp2_with fail
  rw [rounds_succ]
  go_wp2_with fail
  go_ret
  exact ⟨rfl, v', A1.out.2.1, A1.out.1⟩
theorem not_call (w : World) (k R base : Nat) (a b : Int) (v : Value) (L : List Int) (hx : w.heap[k]? = some (.cells (roleC (fieldV false b) (fieldV true a)) 58 (0, 0))) (hr : Rd w R base v L) (hL : L.length ≤ 1000000) :
    Calls Try.prog 30 #[.int .u8 3, .slice (some ⟨w.heap.size + 1, 0, none⟩) 1 1, .pointer (some ⟨w.heap.size, 0, none⟩)]
      ((w.alloc (boxO R)).alloc (.cells (opnd (.iface 56 (.pointer (some ⟨k, 0, none⟩)))) 30))
      fun e w' => e = .returned (.bool true) ∧ ∃ v', Rd w' R base v' (L ++ [b]) ∧ Step (· = R) w w' v v' L.length := by
  have hg : ((w.alloc (boxO R)).alloc (.cells (opnd (.iface 56 (.pointer (some ⟨k, 0, none⟩)))) 30)).heap[w.heap.size + 1]? = some (.cells (opnd (.iface 56 (.pointer (some ⟨k, 0, none⟩)))) 30 (0, 0)) := heap_alloc2_new _ _ _
  have hst := kept2 w (boxO R) (.cells (opnd (.iface 56 (.pointer (some ⟨k, 0, none⟩)))) 30) (fun _ => False)
  refine (ofKind1 _ (w.heap.size + 1) w.heap.size k R base a b v L (by rw [cell_of_row _ _ _ _ 30 (0, 0) hg]; rfl) (by rw [hst.block k (lt_of_block hx) (by simp)]; exact hx) (lt_of_block hg) (heap_alloc2_old _ _ _)
    (new_ne hr _ (by omega)).1 (new_ne hr _ (by omega)).2 (new_ne hr _ (by omega)).1 (new_ne hr _ (by omega)).2 (hr.kept hst) hL).mono ?_
  rintro e w' ⟨he, v', h1, h2⟩
  exact ⟨he, v', h1, ((Step.refl (fun _ => False) v L.length hst).mono (fun _ h => h.elim)).trans h2 (Nat.le_refl _)⟩
theorem not_cells {w : World} {k : Nat} {y : Value} (h : w.heap[k]? = some (.cells (opnd y) 61 (0, 0))) : w.cell? ⟨k, 0, none⟩ = some y ∧ w.cell? ⟨k, 1, none⟩ = some (.string ⟨#[]⟩) ∧ w.cell? ⟨k, 2, none⟩ = some (.int .u8 0) ∧ w.cell? ⟨k, 3, none⟩ = some (.int .i64 0) := by
  refine ⟨?_, ?_, ?_, ?_⟩ <;> (rw [cell_of_row w k _ _ 61 (0, 0) h]; rfl)
set_option maxHeartbeats 1000000 in
set_option maxRecDepth 100000 in
theorem kind3 (w : World) (p q k k2 R base : Nat) (a b : Int) (v : Value) (L : List Int) (hc : w.cell? ⟨p, q, none⟩ = some (.iface 59 (.pointer (some ⟨k, 0, none⟩)))) (hp : p < w.heap.size)
    (hx : w.heap[k]? = some (.cells (opnd (.iface 56 (.pointer (some ⟨k2, 0, none⟩)))) 61 (0, 0))) (hx2 : w.heap[k2]? = some (.cells (roleC (fieldV false b) (fieldV true a)) 58 (0, 0))) (hr : Rd w R base v L) (hL : L.length ≤ 1000000) :
    Calls Try.prog 25 #[.pointer (some ⟨p, q, none⟩), .pointer (some ⟨R, 0, none⟩)] w fun e w' => e = .returned (.int .u8 3) ∧ ∃ v', Rd w' R base v' (L ++ [b]) ∧ Step (· = R) w w' v v' L.length := by
  have hRl := lt_of_block hr.blk
  have hkl := lt_of_block hx
  obtain ⟨c1, c2, c3, c4⟩ := not_cells hx
  have HC := hid (not_call w k2 R base a b v L hx2 hr hL)
  clear hr hx hx2
  go_enter Try.func25, Try.ntmps25
  go_wp2_with (go_at_call 30; refine HC.out.mono ?_; rintro e w1 ⟨rfl, HE⟩; have HE2 := hid HE; clear HE)
  go_ret
  exact ⟨rfl, HE2.out⟩
theorem reg_cells {w : World} {k : Nat} {y z : Value} (h : w.heap[k]? = some (.cells (regC y z) 65 (0, 0))) : w.cell? ⟨k, 4, none⟩ = some z ∧ w.cell? ⟨k, 8, none⟩ = some (.pointer none) := by
  refine ⟨?_, ?_⟩ <;> (rw [cell_of_row w k _ _ 65 (0, 0) h]; rfl)
set_option maxHeartbeats 1000000 in
set_option maxRecDepth 100000 in
theorem kind4 (w : World) (p q k R : Nat) (a b : Int) (hc : w.cell? ⟨p, q, none⟩ = some (.iface 62 (.pointer (some ⟨k, 0, none⟩)))) (hp : p < w.heap.size)
    (hx : w.heap[k]? = some (.cells (regC (fieldV false b) (fieldV false a)) 65 (0, 0))) :
    Calls Try.prog 25 #[.pointer (some ⟨p, q, none⟩), .pointer (some ⟨R, 0, none⟩)] w fun e w' => e = .returned (.int .u8 0) ∧ Below w.heap.size w w' := by
  have hkl := lt_of_block hx
  obtain ⟨c1, c2⟩ := reg_cells hx
  clear hx
  go_enter Try.func25, Try.ntmps25
  go_wp2_with fail
  go_region
  go_wp2_with fail
  go_ret
  exact ⟨rfl, (below2 _ _ _).drew⟩
/-- what a conjunct adds to what was read -/
def reads (t b : Int) : List Int := if t = 4 then [] else [b]
def kindN (t : Int) : Int := if t = 4 then 0 else 3
/-- kindForStrings (25) at a conjunct -/
theorem kind_conj (w : World) (p q B R base : Nat) (t a b : Int) (x v : Value) (L : List Int) (hc : w.cell? ⟨p, q, none⟩ = some x) (hp : p < w.heap.size) (hx : IsConj w B t a b x) (hB : B ≤ R) (hr : Rd w R base v L) (hL : L.length ≤ 1000000) :
    Calls Try.prog 25 #[.pointer (some ⟨p, q, none⟩), .pointer (some ⟨R, 0, none⟩)] w fun e w' => e = .returned (.int .u8 (kindN t)) ∧ ∃ v', Rd w' R base v' (L ++ reads t b) ∧ Step (· = R) w w' v v' L.length := by
  rcases hx with ⟨rfl, k, k1, rfl, k2⟩ | ⟨rfl, k, k1, rfl, k2⟩ | ⟨rfl, k, k1, rfl, k2⟩ | ⟨rfl, k, u, k1, rfl, k2, k', k3, rfl, k4⟩ | ⟨rfl, k, k1, rfl, k2⟩
  · exact kind0 w p q k R base a b v L hc hp k2 (by omega) hr hL
  · exact kind1 w p q k R base a b v L hc hp k2 (by omega) hr hL
  · exact kind2 w p q k R base a b v L hc hp k2 hr hL
  · exact kind3 w p q k k' R base a b v L hc hp k2 k4 hr hL
  · refine (kind4 w p q k R a b hc hp k2).mono ?_
    rintro e w' ⟨he, hb⟩
    refine ⟨he, v, ?_, (Step.refl _ v L.length (Kept.ofBelow hb _ (fun j h1 h2 => by omega)))⟩
    rw [show reads 4 b = [] from rfl, List.append_nil]
    exact hr.below hb
end Go.Proofs.Qxb6614485a
