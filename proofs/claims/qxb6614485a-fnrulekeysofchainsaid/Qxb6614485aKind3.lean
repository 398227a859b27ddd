/- kindForStrings (25) at a binary, the request's field on the left; the closure (30). -/
import Derived.Test.Qxb6614485aKind2
namespace Go.Proofs.Qxb6614485a
open Go.RowKit
attribute [local go_sem] as_53_53 as_53_82 as_53_86 as_53_43 as_53_59 as_53_87 as_53_50 as_53_91 as_53_56 as_53_62 as_50_53 as_50_82 as_50_86 as_50_43 as_50_59 as_50_87 as_50_50 as_50_91 as_50_56 as_50_62 as_56_53 as_56_82 as_56_86 as_56_43 as_56_59 as_56_87 as_56_50 as_56_91 as_56_56 as_56_62 as_59_53 as_59_82 as_59_86 as_59_43 as_59_59 as_59_87 as_59_50 as_59_91 as_59_56 as_59_62 as_62_53 as_62_82 as_62_86 as_62_43 as_62_59 as_62_87 as_62_50 as_62_91 as_62_56 as_62_62 as_43_53 as_43_82 as_43_86 as_43_43 as_43_59 as_43_87 as_43_50 as_43_91 as_43_56 as_43_62
/-- behind the first call, which adds to what was read -/
theorem after3 {w w1 : World} {R k base : Nat} {y z v v' : Value} {L L' : List Int} (hr : Rd w R base v L) (hk : k < R) (hx : w.heap[k]? = some (.cells (binC y z) 55 (0, 0)))
    (hr1 : Rd w1 R base v' L') (hs : Step (· = R) (w.alloc (boxO R)).drew w1 v v' L.length) :
    Rd w1 R base v' L' ∧ w1.heap[k]? = some (.cells (binC y z) 55 (0, 0)) ∧ w1.heap[w.heap.size]? = some (boxO R) ∧ Step (· = R) w w1 v v' L.length := by
  have hr0 := hr.kept (kept1 w (boxO R) _)
  have hk0 : k < w.heap.size := lt_of_block hx
  refine ⟨hr1, ?_, ?_, ((Step.refl (fun _ => False) v L.length (kept1 w (boxO R) _)).mono (fun _ h => h.elim)).trans hs (Nat.le_refl _)⟩
  · rw [hs.low hr0 k hk, (kept1 w (boxO R) (fun _ => False)).block k hk0 (by simp)]; exact hx
  · rw [hs.side hr _ (Nat.le_refl _) (by simp)]; exact heap_alloc_new w _
/-- behind the second, which only makes new blocks -/
theorem after4 {w w1 w2 : World} {R k base : Nat} {y z v v' : Value} {L L' : List Int} {n : Nat} (hr1 : Rd w1 R base v' L') (hx : w1.heap[k]? = some (.cells (binC y z) 55 (0, 0))) (hbx : w1.heap[n]? = some (boxO R))
    (hs : Step (· = R) w w1 v v' L.length) (hb : Below w1.heap.size w1 w2) :
    Rd w2 R base v' L' ∧ w2.heap[k]? = some (.cells (binC y z) 55 (0, 0)) ∧ w2.heap[n]? = some (boxO R) ∧ Step (· = R) w w2 v v' L.length :=
  ⟨hr1.below hb, by rw [hb.block k (lt_of_block hx)]; exact hx, by rw [hb.block n (lt_of_block hbx)]; exact hbx,
    hs.trans (Step.refl _ v' L.length (Kept.ofBelow hb _ (fun j h1 h2 => by omega))) (Nat.le_refl _)⟩
set_option maxHeartbeats 1000000 in
set_option maxRecDepth 100000 in
theorem kind1 (w : World) (p q k R base : Nat) (a b : Int) (v : Value) (L : List Int) (hc : w.cell? ⟨p, q, none⟩ = some (.iface 50 (.pointer (some ⟨k, 0, none⟩)))) (hp : p < w.heap.size)
    (hx : w.heap[k]? = some (.cells (binC (fieldV false b) (fieldV true a)) 55 (0, 0))) (hk : k < R) (hr : Rd w R base v L) (hL : L.length ≤ 1000000) :
    Calls Try.prog 25 #[.pointer (some ⟨p, q, none⟩), .pointer (some ⟨R, 0, none⟩)] w fun e w' => e = .returned (.int .u8 3) ∧ ∃ v', Rd w' R base v' (L ++ [b]) ∧ Step (· = R) w w' v v' L.length := by
  have hRl := lt_of_block hr.blk
  have HR : Hid (Rd w R base v L) := hr
  have HR1 : Hid (Rd (w.alloc (boxO R)).drew R base v L) := hr.kept (kept1 w (boxO R) _)
  have HX : Hid (w.heap[k]? = some (.cells (binC (fieldV false b) (fieldV true a)) 55 (0, 0))) := hx
  have HX1 : Hid ((w.alloc (boxO R)).drew.heap[k]? = some (.cells (binC (fieldV false b) (fieldV true a)) 55 (0, 0))) := ((kept1 w (boxO R) (fun _ => False)).block k (by omega) (by simp)).trans hx
  clear hr hx
  go_enter Try.func25, Try.ntmps25
  go_wp2_with fail
  go_region_held3 (fun w' => w'.cell? ⟨w.heap.size, 0, none⟩ = some (.pointer (some ⟨R, 0, none⟩)))
    (first
      | exact box_cell A2.out.2.2.1
      | exact box_cell A1.out.2.2.1
      | go_keep)
    (first
      | (go_at_call 25; refine (leaf_rule _ k 5 a R (bin_cells A1.out.2.1).2.2 (lt_of_block A1.out.2.1)).mono ?_; rintro e w2 ⟨rfl, hb2⟩; have A2 := hid (after4 A1.out.1 A1.out.2.1 A1.out.2.2.1 A1.out.2.2.2 hb2); clear hb2)
      | (go_at_call 25; refine (leaf_req _ k 1 b R base v L (bin_cells HX1.out).2.1 (by simp; omega) HR1.out hL).mono ?_; rintro e w1 ⟨rfl, v', hr2, hs2⟩; have A1 := hid (after3 HR.out hk HX.out hr2 hs2); clear hr2 hs2))
  have hop := (bin_cells A2.out.2.1).1
  go_wp2_with (go_at_call 31; refine (kindOf_eq _).mono ?_; rintro e w3 ⟨rfl, rfl⟩)
  go_ret
  exact ⟨rfl, v', A2.out.1, A2.out.2.2.2⟩
theorem Step.ofDrew {S : Nat → Prop} {w w1 : World} {v v' : Value} {N : Nat} (h : Step S w.drew w1 v v' N) : Step S w w1 v v' N :=
  ⟨⟨h.kept.os, h.kept.tape, h.kept.output, h.kept.size, h.kept.block⟩, h.row, h.here⟩
theorem Rd.drew {w : World} {R base : Nat} {v : Value} {L : List Int} (h : Rd w R base v L) : Rd w.drew R base v L := ⟨h.blk, h.own.drew, h.lo, h.hi⟩
/-- behind a call in the closure -/
theorem after5 {w w1 : World} {R base g n N : Nat} {v v' : Value} {L' : List Int} (hs : Step (· = R) w.drew w1 v v' N) (hr1 : Rd w1 R base v' L') (hg : g < w.heap.size) (hn : w.heap[n]? = some (boxO R)) (hgR : g ≠ R) (hgv : some g ≠ v.ownBlock) (hnR : n ≠ R) (hnv : some n ≠ v.ownBlock) :
    Step (· = R) w w1 v v' N ∧ Rd w1 R base v' L' ∧ w1.heap[n]? = some (boxO R) ∧ w1.heap[g]? = w.heap[g]? :=
  ⟨hs.ofDrew, hr1, by rw [hs.ofDrew.kept.block n (lt_of_block hn) (fun h => h.elim hnR hnv)]; exact hn, hs.ofDrew.kept.block g hg (fun h => h.elim hgR hgv)⟩
theorem after6 {w w1 : World} {R base n : Nat} {v : Value} {L : List Int} (hr : Rd w R base v L) (hn : w.heap[n]? = some (boxO R)) (hb : Below w.drew.heap.size w.drew w1) :
    Rd w1 R base v L ∧ w1.heap[n]? = some (boxO R) ∧ Kept w w1 (fun _ => False) :=
  have hb' : Below w.heap.size w w1 := ⟨hb.os, hb.tape, hb.output, hb.size, hb.block⟩
  ⟨hr.below hb', by rw [hb'.block n (lt_of_block hn)]; exact hn, Kept.ofBelow hb' _ (fun j h1 h2 => by omega)⟩
set_option maxHeartbeats 1000000 in
set_option maxRecDepth 100000 in
/-- the closure ofKind (30), at a request's field and a rule's -/
theorem ofKind2 (w : World) (g n R base : Nat) (a b : Int) (v : Value) (L : List Int) (h0 : w.cell? ⟨g, 0, none⟩ = some (fieldV false b)) (h4 : w.cell? ⟨g, 4, none⟩ = some (fieldV true a))
    (hg : g < w.heap.size) (hn : w.heap[n]? = some (boxO R)) (hgR : g ≠ R) (hgv : some g ≠ v.ownBlock) (hnR : n ≠ R) (hnv : some n ≠ v.ownBlock) (hr : Rd w R base v L) (hL : L.length ≤ 1000000) :
    Calls Try.prog 30 #[.int .u8 1, .slice (some ⟨g, 0, none⟩) 2 2, .pointer (some ⟨n, 0, none⟩)] w fun e w' => e = .returned (.bool true) ∧ ∃ v', Rd w' R base v' (L ++ [b]) ∧ Step (· = R) w w' v v' L.length := by
  have hbx := box_cell hn
  have HR := hid hr
  have HN := hid hn
  have HG := hid hgv
  have HV := hid hnv
  clear hr hn hgv hnv
  go_enter Try.func30, Try.ntmps30
  go_wp2_with fail
  refine wp_loop_rounds 3 ?_
  rw [rounds_succ]
  go_wp2_with fail
  go_region_held3 (fun w' => w'.cell? ⟨n, 0, none⟩ = some (.pointer (some ⟨R, 0, none⟩)))
    (first
      | exact box_cell A1.out.2.2.1
      | go_keep)
    (first
      | (go_at_call 25; refine (leaf_req w.drew g 0 b R base v L h0 hg HR.out.drew hL).mono ?_; rintro e w1 ⟨rfl, v', hr2, hs2⟩; have A1 := hid (after5 hs2 hr2 hg HN.out hgR HG.out hnR HV.out); clear hr2 hs2))
  go_wp2_with fail
  rw [rounds_succ]
  have hbx1 := box_cell A1.out.2.2.1
  have h41 : w1.cell? ⟨g, 4, none⟩ = some (fieldV true a) := (World.cell?_of_block (w := w) A1.out.2.2.2).trans h4
  have hg1 : g < w1.heap.size := Nat.lt_of_lt_of_le hg A1.out.1.kept.size
  go_wp2_with fail
  go_region_held3 (fun w' => w'.cell? ⟨n, 0, none⟩ = some (.pointer (some ⟨R, 0, none⟩)))
    (first
      | exact box_cell A2.out.2.1
      | go_keep)
    (first
      | (go_at_call 25; refine (leaf_rule w1.drew g 4 a R h41 hg1).mono ?_; rintro e w2 ⟨rfl, hb2⟩; have A2 := hid (after6 A1.out.2.1 A1.out.2.2.1 hb2); clear hb2))
  go_wp2_with fail
  rw [rounds_succ]
  go_wp2_with fail
  go_ret
  exact ⟨rfl, v', A2.out.1, A1.out.1.trans (Step.refl _ v' L.length (A2.out.2.2.mono (fun _ _ h => h.elim))) (Nat.le_refl _)⟩
end Go.Proofs.Qxb6614485a
