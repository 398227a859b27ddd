/- ruleKeysOf (15). -/
import Derived.Test.Qxb6614485aInv
import Derived.Test.Qxb6614485aSorts
import Derived.Deep.DeepCutAuto
import Derived.BigRegion
import Derived.Deep.RegionLaw
namespace Go.Proofs.Qxb6614485a
open Go.RowKit
def plist (pb po : Nat → Nat) (n : Nat) : List Value := (List.range n).map fun i => .pointer (some ⟨pb i, po i, none⟩)
abbrev nils : Value := .slice none 0 0
/-- what is known at the loop's start -/
structure Start (w w0 : World) (c : Nat) (cap n : Nat) (pb po : Nat → Nat) : Prop where
  below : Below w.heap.size w w0
  res : w0.heap[w.heap.size]? = some (.cells #[nils, nils, nils, nils] 35 (0, 0))
  k : w0.heap[w.heap.size + 1]? = some (.cells #[nils, nils, nils, nils] 35 (0, 0))
  r : w0.heap[w.heap.size + 2]? = some (.cells #[nils] 23 (0, 0))
  row : w0.ownsRow (w.heap.size + 3) 37 1 (.slice (some ⟨c, 0, none⟩) n cap) n (plist pb po n)
theorem Start.inv {w w0 : World} {c cap n : Nat} {pb po : Nat → Nat} (h : Start w w0 c cap n pb po) : KInv w0 w0 (w.heap.size + 1) (w.heap.size + 2) nils nils nils nils nils [] KS.init := by
  have h1 := lt_of_block h.r
  refine ⟨h.k, ⟨h.r, World.ownsRow_nil _ _ _ _, h1, Nat.le_refl _⟩, World.ownsRow_nil _ _ _ _, World.ownsRow_nil _ _ _ _, World.ownsRow_nil _ _ _ _, fun i hi => by simp [KS.init] at hi, World.ownsRow_nil _ _ _ _, apart_nil _, apart_nil _, Nat.le_refl _, .inl ⟨rfl, rfl⟩, Kept.refl _ _, by omega, by omega⟩
theorem start_of {w w3 w0 : World} {c cap n : Nat} {pb po : Nat → Nat} (h3 : w3 = ((w.alloc (.cells #[nils, nils, nils, nils] 35)).alloc (.cells #[nils, nils, nils, nils] 35)).alloc (.cells #[nils] 23))
    (hr : w0.ownsRow w3.heap.size 37 1 (.slice (some ⟨c, 0, none⟩) n cap) n (plist pb po n)) (hb : Below w3.heap.size w3 w0) : Start w w0 c cap n pb po := by
  subst h3
  refine ⟨(((below2 w _ _).alloc (by simp; omega) _).trans (hb.mono (by simp; omega))), ?_, ?_, ?_, by simpa using hr⟩
  · rw [hb.block _ (by simp; omega), Below.heap_alloc _ _ _ (by simp; omega)]; exact heap_alloc2_old _ _ _
  · rw [hb.block _ (by simp), Below.heap_alloc _ _ _ (by simp)]; exact heap_alloc2_new _ _ _
  · rw [hb.block _ (by simp)]
    have := heap_alloc_new ((w.alloc (.cells #[nils, nils, nils, nils] 35)).alloc (.cells #[nils, nils, nils, nils] 35)) (.cells #[nils] 23)
    simpa using this
theorem KInv.low {w w0 wr : World} {c cap n : Nat} {pb po : Nat → Nat} {vf vv vr vs v : Value} {cr : List Value} {s : KS} (hs : Start w w0 c cap n pb po) (h : KInv w0 wr (w.heap.size + 1) (w.heap.size + 2) vf vv vr vs v cr s) (j : Nat) (hj : j < w.heap.size + 1) : wr.heap[j]? = w0.heap[j]? :=
  h.kept.block j (by have := lt_of_block hs.r; omega) (by omega)
theorem KInv.facts {w w0 wr : World} {c cap n : Nat} {pb po : Nat → Nat} {vf vv vr vs v : Value} {cr : List Value} {s : KS} {cs : Nat → Int × Int × Int} {xf : Nat → Value} (hs : Start w w0 c cap n pb po) (h : KInv w0 wr (w.heap.size + 1) (w.heap.size + 2) vf vv vr vs v cr s)
    (hcell : ∀ i, i < n → w.cell? ⟨pb i, po i, none⟩ = some (xf i) ∧ pb i < w.heap.size) (hcj : ∀ i, i < n → IsConj w w.heap.size (cs i).1 (cs i).2.1 (cs i).2.2 (xf i)) (k : Nat) (hk : k < n) :
    wr.cell? ⟨pb k, po k, none⟩ = some (xf k) ∧ pb k < wr.heap.size ∧ IsConj wr w.heap.size (cs k).1 (cs k).2.1 (cs k).2.2 (xf k) := by
  have hl : ∀ j, j < w.heap.size → wr.heap[j]? = w.heap[j]? := fun j hj => (h.low hs j (by omega)).trans (hs.below.block j hj)
  have hz := h.kept.size
  have hz2 := hs.below.size
  obtain ⟨h1, h2⟩ := hcell k hk
  exact ⟨(World.cell?_of_block (w := w) (hl _ h2)).trans h1, by omega, (hcj k hk).keep (Nat.le_refl _) hl⟩
theorem KInv.ptr {w w0 wr : World} {c cap n : Nat} {pb po : Nat → Nat} {vf vv vr vs v : Value} {cr : List Value} {s : KS} (hs : Start w w0 c cap n pb po) (h : KInv w0 wr (w.heap.size + 1) (w.heap.size + 2) vf vv vr vs v cr s) (k : Nat) (hk : k < n) :
    wr.cell? ⟨c, k, none⟩ = some (.pointer (some ⟨pb k, po k, none⟩)) := by
  have hb := hs.row.lt c rfl
  rw [World.cell?_of_block (w := w0) (h.kept.block c hb.2 (by omega)), hs.row.cellAt k (by omega)]
  simp [plist, hk]
theorem kind_yes {w : World} {p q B R base : Nat} {t a b : Int} {x v : Value} {L : List Int} (hc : w.cell? ⟨p, q, none⟩ = some x ∧ p < w.heap.size ∧ IsConj w B t a b x) (hB : B ≤ R) (hr : Rd w R base v L) (hL : L.length ≤ 1000000) (ht : t ≠ 4) :
    Calls Try.prog 25 #[.pointer (some ⟨p, q, none⟩), .pointer (some ⟨R, 0, none⟩)] w fun e w' => e = .returned (.int .u8 3) ∧ ∃ v', Rd w' R base v' (L ++ [b]) ∧ Step (· = R) w w' v v' L.length := by
  have h := kind_conj w p q B R base t a b x v L hc.1 hc.2.1 hc.2.2 hB hr hL
  rwa [kindN, reads, if_neg ht, if_neg ht] at h
theorem kind_no {w : World} {p q B : Nat} {t a b : Int} {x : Value} (R : Nat) (hc : w.cell? ⟨p, q, none⟩ = some x ∧ p < w.heap.size ∧ IsConj w B t a b x) (ht : t = 4) :
    Calls Try.prog 25 #[.pointer (some ⟨p, q, none⟩), .pointer (some ⟨R, 0, none⟩)] w fun e w' => e = .returned (.int .u8 0) ∧ Below w.heap.size w w' := by
  obtain ⟨h1, h2, h⟩ := hc
  rcases h with ⟨h, _⟩ | ⟨h, _⟩ | ⟨h, _⟩ | ⟨h, _⟩ | ⟨_, k, k1, rfl, k2⟩
  · omega
  · omega
  · omega
  · omega
  · exact kind4 w p q k R a b h1 h2 k2
theorem KInv.kblk {w0 wr w1 : World} {K R : Nat} {vf vv vr vs v u u' : Value} {cr : List Value} {s : KS} {e : TypeId} {size n N : Nat} {xs : List Value} (h : KInv w0 wr K R vf vv vr vs v cr s) (hu : wr.ownsRow w0.heap.size e size u n xs) (hs : Step (fun _ => False) wr w1 u u' N) :
    w1.heap[K]? = some (.cells #[vf, vv, vr, vs] 35 (0, 0)) := by
  rw [hs.kept.block K (lt_of_block h.blk) (fun hx => hx.elim id (h.notK hu).1)]; exact h.blk
theorem KInv.alloc {w0 wr : World} {K R : Nat} {vf vv vr vs v : Value} {cr : List Value} {s : KS} (h : KInv w0 wr K R vf vv vr vs v cr s) (o : Obj) : KInv w0 (wr.alloc o) K R vf vv vr vs v cr s :=
  h.kept1 ((Kept.refl _ _).alloc o)
theorem Try.info30 : (Try.prog.info? 30).map (fun i => (i.zero, i.size, i.bytes)) = some (some (.agg (opnd .nilIface)), 4, 48) := by kernel_rfl
theorem Try.info73 : (Try.prog.info? 73).map (fun i => (i.zero, i.size, i.bytes)) = some (some (.agg #[.pointer none, .int .i64 0]), 2, 16) := by kernel_rfl
theorem KInv.drew {w0 wr : World} {K R : Nat} {vf vv vr vs v : Value} {cr : List Value} {s : KS} (h : KInv w0 wr K R vf vv vr vs v cr s) : KInv w0 wr.drew K R vf vv vr vs v cr s :=
  h.kept1 (Kept.refl _ _).drew
/-- four cells below all that the loop writes -/
theorem four {w w0 w1 w4 : World} {c cap n : Nat} {pb po : Nat → Nat} {vf vv vr vs v vf' vv' vr' vs' v' : Value} {cr cr' : List Value} {s s' : KS} {k2 o2 : Nat} {x : Value} (hs : Start w w0 c cap n pb po) (h1 : KInv w0 w1 (w.heap.size + 1) (w.heap.size + 2) vf vv vr vs v cr s) (h4 : KInv w0 w4 (w.heap.size + 1) (w.heap.size + 2) vf' vv' vr' vs' v' cr' s')
    (hk : k2 < w.heap.size) (hc : ∀ j, j < 4 → w1.cell? ⟨k2, o2 + j, none⟩ = (opnd x)[j]?) :
    w4.cell? ⟨k2, o2, none⟩ = some x ∧ w4.cell? ⟨k2, o2 + 1, none⟩ = some (.string ⟨#[]⟩) ∧ w4.cell? ⟨k2, o2 + 2, none⟩ = some (.int .u8 0) ∧ w4.cell? ⟨k2, o2 + 3, none⟩ = some (.int .i64 0) ∧ k2 < w4.heap.size ∧ w.heap.size + 1 < w4.heap.size := by
  have hl : w4.heap[k2]? = w1.heap[k2]? := (h4.low hs k2 (by omega)).trans (h1.low hs k2 (by omega)).symm
  have z := h4.kept.size
  have z2 := lt_of_block hs.r
  refine ⟨?_, ?_, ?_, ?_, by omega, by omega⟩
  · rw [World.cell?_of_block (w := w1) hl]; exact hc 0 (by omega)
  · rw [World.cell?_of_block (w := w1) hl]; exact hc 1 (by omega)
  · rw [World.cell?_of_block (w := w1) hl]; exact hc 2 (by omega)
  · rw [World.cell?_of_block (w := w1) hl]; exact hc 3 (by omega)
structure LInv (w w0 wr : World) (l : List (Int × Int × Int)) (k : Nat) (vf vv vr vs v : Value) (cr : List Value) (s : KS) : Prop where
  inv : KInv w0 wr (w.heap.size + 1) (w.heap.size + 2) vf vv vr vs v cr s
  run : runK KS.init l = runK s (l.drop k)
  b1 : s.rd.length ≤ k
  b2 : s.fs.length ≤ k
  b3 : s.vs.length ≤ k
  b4 : s.rs.length ≤ k
theorem LInv.next {w w0 wr w' : World} {l : List (Int × Int × Int)} {k : Nat} {vf vv vr vs v vf' vv' vr' vs' v' : Value} {cr cr' : List Value} {s : KS} {c : Int × Int × Int} (h : LInv w w0 wr l k vf vv vr vs v cr s) (hl : l.drop k = c :: l.drop (k + 1)) (ht : c.1 ≠ 4)
    (hi : KInv w0 w' (w.heap.size + 1) (w.heap.size + 2) vf' vv' vr' vs' v' cr' (s.step c)) : LInv w w0 w' l (k + 1) vf' vv' vr' vs' v' cr' (s.step c) := by
  have h1 := h.b1
  have h2 := h.b2
  have h3 := h.b3
  have h4 := h.b4
  refine ⟨hi, ?_, ?_, ?_, ?_, ?_⟩
  · rw [h.run, hl, runK, if_neg ht]
  · unfold KS.step; split
    · simp [KS.read, KS.eq, KS.mark]; omega
    · split <;> simp [KS.read, KS.role, KS.mark] <;> omega
  · unfold KS.step; split
    · simp [KS.read, KS.eq, KS.mark]; omega
    · split <;> simp [KS.read, KS.role, KS.mark] <;> omega
  · unfold KS.step; split
    · simp [KS.read, KS.eq, KS.mark]; omega
    · split <;> simp [KS.read, KS.role, KS.mark] <;> omega
  · unfold KS.step; split
    · simp [KS.read, KS.eq, KS.mark]; omega
    · split <;> simp [KS.read, KS.role, KS.mark] <;> omega
theorem step01 (s : KS) (c : Int × Int × Int) (h : c.1 = 0 ∨ c.1 = 1) : s.step c = ((s.read c.2.2).eq c.2.1 c.2.2).mark := if_pos h
theorem step2 (s : KS) (c : Int × Int × Int) (h : c.1 = 2) : s.step c = ((s.read c.2.2).role c.2.1).mark := by simp [KS.step, h]
theorem step3 (s : KS) (c : Int × Int × Int) (h : c.1 = 3) : s.step c = s.read c.2.2 := by simp [KS.step, h]
theorem LInv.next01 {w w0 wr w' : World} {l : List (Int × Int × Int)} {k : Nat} {vf vv vr vs v vf' vv' vr' vs' v' : Value} {cr cr' : List Value} {s : KS} {c : Int × Int × Int} (h : LInv w w0 wr l k vf vv vr vs v cr s) (hl : l.drop k = c :: l.drop (k + 1)) (h01 : c.1 = 0 ∨ c.1 = 1)
    (hi : KInv w0 w' (w.heap.size + 1) (w.heap.size + 2) vf' vv' vr' vs' v' cr' (((s.read c.2.2).eq c.2.1 c.2.2).mark)) : LInv w w0 w' l (k + 1) vf' vv' vr' vs' v' cr' (s.step c) :=
  h.next hl (by omega) (by rw [step01 _ _ h01]; exact hi)
theorem LInv.next2 {w w0 wr w' : World} {l : List (Int × Int × Int)} {k : Nat} {vf vv vr vs v vf' vv' vr' vs' v' : Value} {cr cr' : List Value} {s : KS} {c : Int × Int × Int} (h : LInv w w0 wr l k vf vv vr vs v cr s) (hl : l.drop k = c :: l.drop (k + 1)) (h2 : c.1 = 2)
    (hi : KInv w0 w' (w.heap.size + 1) (w.heap.size + 2) vf' vv' vr' vs' v' cr' (((s.read c.2.2).role c.2.1).mark)) : LInv w w0 w' l (k + 1) vf' vv' vr' vs' v' cr' (s.step c) :=
  h.next hl (by omega) (by rw [step2 _ _ h2]; exact hi)
theorem LInv.next3 {w w0 wr w' : World} {l : List (Int × Int × Int)} {k : Nat} {vf vv vr vs v vf' vv' vr' vs' v' : Value} {cr cr' : List Value} {s : KS} {c : Int × Int × Int} (h : LInv w w0 wr l k vf vv vr vs v cr s) (hl : l.drop k = c :: l.drop (k + 1)) (h3 : c.1 = 3)
    (hi : KInv w0 w' (w.heap.size + 1) (w.heap.size + 2) vf' vv' vr' vs' v' cr' (s.read c.2.2)) : LInv w w0 w' l (k + 1) vf' vv' vr' vs' v' cr' (s.step c) :=
  h.next hl (by omega) (by rw [step3 _ _ h3]; exact hi)
theorem rd_form {w : World} {R base : Nat} {v : Value} {L : List Int} {b : Int} (h : Rd w R base v (L ++ [b])) : ∃ g cap, v = .slice (some ⟨g, 0, none⟩) (L.length + 1) cap := by
  have := owns_form h.own (by simp)
  simpa using this
theorem kcells {w : World} {K : Nat} {a b c d : Value} (h : w.heap[K]? = some (.cells #[a, b, c, d] 35 (0, 0))) : w.cell? ⟨K, 0, none⟩ = some a ∧ w.cell? ⟨K, 1, none⟩ = some b ∧ w.cell? ⟨K, 2, none⟩ = some c ∧ w.cell? ⟨K, 3, none⟩ = some d ∧ w.frozen? ⟨K, 0, none⟩ = false ∧ w.frozen? ⟨K, 1, none⟩ = false ∧ w.frozen? ⟨K, 2, none⟩ = false ∧ w.frozen? ⟨K, 3, none⟩ = false := by
  refine ⟨?_, ?_, ?_, ?_, frozen_of_row _ _ _ _ _ h, frozen_of_row _ _ _ _ _ h, frozen_of_row _ _ _ _ _ h, frozen_of_row _ _ _ _ _ h⟩ <;> (rw [cell_of_row w K _ _ 35 (0, 0) h]; rfl)
/-- behind the loop -/
structure EInv (w w0 wy : World) (vf vv vr vs : Value) (cr : List Value) (s : KS) : Prop where
  blk : wy.heap[w.heap.size + 1]? = some (.cells #[vf, vv, vr, vs] 35 (0, 0))
  res : wy.heap[w.heap.size]? = some (.cells #[nils, nils, nils, nils] 35 (0, 0))
  of : wy.ownsRow w0.heap.size 3 1 vf s.fs.length (ints s.fs)
  ov : wy.ownsRow w0.heap.size 30 4 vv s.vs.length (opnds s.vs)
  or : wy.ownsRow w0.heap.size 73 2 vr s.rs.length cr
  rl : ∀ i, i < s.rs.length → cr[2 * i + 1]? = some (.int .i64 (s.rs.getD i 0))
  below : Below w.heap.size w wy
  lt : w.heap.size + 2 < w0.heap.size
theorem KInv.toE {w w0 wr : World} {c cap n : Nat} {pb po : Nat → Nat} {vf vv vr vs v : Value} {cr : List Value} {s : KS} (hs : Start w w0 c cap n pb po) (h : KInv w0 wr (w.heap.size + 1) (w.heap.size + 2) vf vv vr vs v cr s) : EInv w w0 wr vf vv vr vs cr s :=
  ⟨h.blk, (h.low hs _ (by omega)).trans hs.res, h.of, h.ov, h.or, h.rl, hs.below.trans ((h.kept.below (B := w.heap.size) (by have := hs.below.size; omega) (fun j hj => by omega))), lt_of_block hs.r⟩
theorem Kept.grown {w w' : World} {g : Nat} (h : Kept w w' (· = g)) : w.grownBy w' (some g) := ⟨h.os, h.tape, h.output, h.size, fun k hk hne => h.block k hk (fun e => hne (by rw [e]))⟩
/-- behind a call that turns the row of vs alone -/
theorem EInv.turn {w w0 wy wz : World} {vf vv vr vs : Value} {cr : List Value} {s : KS} {g m : Nat} {ys : List Value} (h : EInv w w0 wy vf vv vr vs cr s) (ho : wy.ownsRow w0.heap.size 3 1 vs m ys) (hg : vs.ownBlock = some g) (ha : Apart vs vf) (hk : Kept wy wz (· = g)) : EInv w w0 wz vf vv vr vs cr s := by
  have hl := ho.lt g hg
  have hlt := h.lt
  have ap : ∀ {u : Value}, Apart u vs → u.ownBlock = none ∨ u.ownBlock ≠ some g := fun h => h.imp id (fun h => by rw [← hg]; exact h)
  exact ⟨by rw [hk.block _ (lt_of_block h.blk) (by omega)]; exact h.blk, by rw [hk.block _ (lt_of_block h.res) (by omega)]; exact h.res, h.of.kept hk.grown (ap ha.symm), h.ov.kept hk.grown (ap (apart_types h.ov ho (by decide))), h.or.kept hk.grown (ap (apart_types h.or ho (by decide))), h.rl,
    h.below.trans (hk.below (by have := h.below.size; omega) (fun j hj => by omega)), h.lt⟩
theorem EInv.store {w w0 wy : World} {vf vv vr vs u : Value} {cr : List Value} {s : KS} (h : EInv w w0 wy vf vv vr vs cr s) : EInv w w0 (wy.setCell ⟨w.heap.size + 1, 3, none⟩ u) vf vv vr u cr s := by
  have hk : Kept wy (wy.setCell ⟨w.heap.size + 1, 3, none⟩ u) (· = w.heap.size + 1) := (Kept.refl _ _).setCell _ _ rfl
  have hlt := h.lt
  have hS : ∀ j, j = w.heap.size + 1 → j < w0.heap.size := fun j hj => by omega
  exact ⟨by simpa using set_blk (i := 3) (u := u) h.blk, by rw [hk.block _ (lt_of_block h.res) (by omega)]; exact h.res, hk.owns h.of hS, hk.owns h.ov hS, hk.owns h.or hS, h.rl,
    h.below.trans (hk.below (by have := h.below.size; omega) (fun j hj => by omega)), h.lt⟩
theorem own_keep_store {w0 wy : World} {K : Nat} {u vz : Value} {n : Nat} {xs : List Value} (ho : wy.ownsRow w0.heap.size 3 1 vz n xs) (hK : K < w0.heap.size) : (wy.setCell ⟨K, 3, none⟩ u).ownsRow w0.heap.size 3 1 vz n xs :=
  ((Kept.refl wy (· = K)).setCell ⟨K, 3, none⟩ u rfl).owns ho (fun j hj => by omega)
structure RPost (w w' : World) (vf vv vr vz : Value) (cr : List Value) (s : KS) (Z : List Int) : Prop where
  of : w'.ownsRow w.heap.size 3 1 vf s.fs.length (ints s.fs)
  ov : w'.ownsRow w.heap.size 30 4 vv s.vs.length (opnds s.vs)
  or : w'.ownsRow w.heap.size 73 2 vr s.rs.length cr
  rl : ∀ i, i < s.rs.length → cr[2 * i + 1]? = some (.int .i64 (s.rs.getD i 0))
  oz : w'.ownsRow w.heap.size 3 1 vz Z.length (ints Z)
  below : Below w.heap.size w w'
theorem EInv.fin {w w0 wy w' : World} {vf vv vr vz : Value} {cr : List Value} {s : KS} {Z : List Int} (h : EInv w w0 wy vf vv vr vz cr s) (hz : wy.ownsRow w0.heap.size 3 1 vz Z.length (ints Z)) (hg : wy.grownBy w' (some w.heap.size)) : RPost w w' vf vv vr vz cr s Z := by
  have hk : Kept wy w' (· = w.heap.size) := Kept.ofGrown hg _ (fun j h => by simpa using h)
  have hlt := h.lt
  have hS : ∀ j, j = w.heap.size → j < w0.heap.size := fun j hj => by omega
  exact ⟨owns_base (hk.owns h.of hS) (by omega), owns_base (hk.owns h.ov hS) (by omega), owns_base (hk.owns h.or hS) (by omega), h.rl, owns_base (hk.owns hz hS) (by omega), h.below.trans (hk.below (by have := h.below.size; omega) (fun j hj => by omega))⟩
theorem owns_one {w : World} {b : Nat} {e : TypeId} {size m : Nat} {u : Value} {ys : List Value} (h : w.ownsRow b e size u m ys) : u.oneCell' = true := by
  rcases h.2 with ⟨rfl, _⟩ | ⟨g, cap, _, rfl, _⟩ <;> rfl
theorem EInv.one {w w0 wy : World} {vf vv vr vz : Value} {cr : List Value} {s : KS} {n : Nat} {xs : List Value} (h : EInv w w0 wy vf vv vr vz cr s) (hz : wy.ownsRow w0.heap.size 3 1 vz n xs) : #[vf, vv, vr, vz].all (·.oneCell') = true := by
  simp [owns_one h.of, owns_one h.ov, owns_one h.or, owns_one hz]
theorem Try.size35 : (Try.prog.info? 35).map (·.size) = some 4 := by kernel_rfl
/-- the keys' strings -/
def strs (s : KS) : List Int := Lib.compact (sorted (s.rd.take s.kr))
theorem take_len (s : KS) (h : s.kr ≤ s.rd.length) : (s.rd.take s.kr).length = s.kr := by simp; omega
theorem strs_nil (s : KS) (h : s.kr = 0) : strs s = [] := by simp [strs, h, sorted, Lib.compact, Lib.compactUpTo]
/-- the sort's call -/
theorem sort_call {w0 wy : World} {g cap : Nat} {s : KS} (h : wy.ownsRow w0.heap.size 3 1 (.slice (some ⟨g, 0, none⟩) s.kr cap) s.kr (ints (s.rd.take s.kr))) (hk : s.kr ≤ s.rd.length) (hL : s.rd.length ≤ 1000000) :
    Calls Try.prog 28 #[.slice (some ⟨g, 0, none⟩) s.kr cap] wy fun e w' => e = .returned (.tuple #[]) ∧ w'.ownsRow w0.heap.size 3 1 (.slice (some ⟨g, 0, none⟩) s.kr cap) s.kr (ints (sorted (s.rd.take s.kr))) ∧ Kept wy w' (· = g) := by
  have hz := take_len s hk
  have := sort_own wy w0.heap.size g cap (s.rd.take s.kr) (by rw [hz]; exact h) (by omega)
  simpa only [sorted_len, hz] using this
theorem compact_call {w0 wy : World} {g cap : Nat} {s : KS} (h : wy.ownsRow w0.heap.size 3 1 (.slice (some ⟨g, 0, none⟩) s.kr cap) s.kr (ints (sorted (s.rd.take s.kr)))) (hk : s.kr ≤ s.rd.length) (hL : s.rd.length ≤ 1000000) :
    Calls Try.prog 29 #[.slice (some ⟨g, 0, none⟩) s.kr cap] wy fun e w' => e = .returned (.slice (some ⟨g, 0, none⟩) (strs s).length cap) ∧ w'.ownsRow w0.heap.size 3 1 (.slice (some ⟨g, 0, none⟩) (strs s).length cap) (strs s).length (ints (strs s)) ∧ Kept wy w' (· = g) := by
  have hz := take_len s hk
  have := compact_own wy w0.heap.size g cap (sorted (s.rd.take s.kr)) (by rw [sorted_len, hz]; exact h) (by rw [sorted_len]; omega)
  unfold strs
  simpa only [sorted_len, hz] using this
set_option maxHeartbeats 4000000 in
set_option maxRecDepth 100000 in
theorem rule_any (w : World) (rb n : Nat) (pb po : Nat → Nat) (cs : Nat → Int × Int × Int) (xf : Nat → Value) (l : List (Int × Int × Int)) (hl : ∀ k, k < n → l.drop k = cs k :: l.drop (k + 1)) (hll : l.length = n) (hn : n ≤ 4096) (h1 : 0 < n)
    (hcall : ∀ w1, Below w.heap.size w w1 → Calls Try.prog 24 #[.slice none 0 0, .pointer (some ⟨rb, 0, none⟩)] w1 fun e w' => ∃ v', e = .returned v' ∧ w'.ownsRow w1.heap.size 37 1 v' n (plist pb po n) ∧ Below w1.heap.size w1 w')
    (hcell : ∀ i, i < n → w.cell? ⟨pb i, po i, none⟩ = some (xf i) ∧ pb i < w.heap.size) (hcj : ∀ i, i < n → IsConj w w.heap.size (cs i).1 (cs i).2.1 (cs i).2.2 (xf i)) :
    Calls Try.prog 15 #[.pointer (some ⟨rb, 0, none⟩)] w fun e w' => ∃ vf vv vr vz cr, e = .returned (.agg #[vf, vv, vr, vz]) ∧ RPost w w' vf vv vr vz cr (runK KS.init l) (strs (runK KS.init l)) := by
  have HCALL := hid hcall
  have HCELL := hid hcell
  have HCJ := hid hcj
  have HL := hid hl
  clear hcall hcell hcj hl
  obtain ⟨i3, hi3, hz30, hz31, hz32⟩ := info_parts Try.info3
  obtain ⟨i30, hi30, hz300, hz301, hz302⟩ := info_parts Try.info30
  obtain ⟨i73, hi73, hz730, hz731, hz732⟩ := info_parts Try.info73
  go_enter Try.func15, Try.ntmps15
  go_wp2_with (go_at_call 24; refine (HCALL.out _ ((below2 w _ _).alloc (by simp; omega) _)).mono ?_; rintro e w0 ⟨v', rfl, hr0, hb0⟩; obtain ⟨c, cap, rfl⟩ := owns_form hr0 h1; have HS := hid (start_of rfl hr0 hb0); clear hr0 hb0)
  go_loopw [15] (fun i wr => ∃ (k : Nat) (vf vv vr vs v : Value) (cr : List Value) (s : KS), k ≤ n ∧ i = .int .i64 k ∧ LInv w w0 wr l k vf vv vr vs v cr s) (fun i _ => n - (intOf i).toNat)
  case atStart => exact ⟨0, _, _, _, _, _, [], KS.init, Nat.zero_le _, rfl, HS.out.inv, rfl, by simp [KS.init], by simp [KS.init], by simp [KS.init], by simp [KS.init]⟩
  case round =>
    obtain ⟨k, vf, vv, vr, vs, v, cr, s, hk, rfl, hinv⟩ := hrel
    have HI := hid hinv
    have hz := hinv.inv.kept.size
    have hz2 := HS.out.below.size
    clear hinv
    by_cases hkn : k < n
    · have hp := HI.out.inv.ptr HS.out k hkn
      have HF := hid (HI.out.inv.facts HS.out HCELL.out HCJ.out k hkn)
      rcases (show (cs k).1 = 4 ∨ (cs k).1 ≠ 4 from by omega) with ht | ht
      · have hrun : runK KS.init l = s := by rw [HI.out.run, HL.out k hkn, runK, if_pos ht]
        have HRUN := hid hrun
        clear hrun
        go_upto_region 17 with (first
          | (go_at_call 25; refine (kind_no _ HF.out ht).mono ?_; rintro e w1 ⟨rfl, hb1⟩; have HI1 := hid (HI.out.inv.below hb1); clear hb1))
        have HE := hid (HI1.out.toE HS.out)
        have HOS := hid HI1.out.os
        have HAP := hid HI1.out.aps
        have HKR := hid HI1.out.kr
        have hlt := HE.out.lt
        obtain ⟨e0, e1, e2, e3, f0, f1, f2, f3⟩ := kcells HE.out.blk
        rcases HI1.out.nil with ⟨rfl, hk0⟩ | hk0
        · have HZ := hid (strs_nil s hk0)
          go_wp2_with (first
            | (go_at_call 28; refine (Try.slices_Sort_int_none none 0 _).mono ?_; rintro e w2 ⟨rfl, rfl⟩)
            | (go_at_call 29; refine (Try.slices_Compact_int_empty none 0 _).mono ?_; rintro e w3 ⟨rfl, rfl⟩)
            | (refine wpList_store_blk rfl 35 (.tmp 2) (.tmp 67) rfl w.heap.size #[vf, vv, vr, nils] rfl rfl 35 #[nils, nils, nils, nils] HE.out.store.res Try.size35 rfl (HE.out.one (World.ownsRow_nil _ _ _ _)) ?_; intro w5 hw5 hg5))
          exact bodyPost_ret (results_cell_row rfl _ _ w.heap.size 35 #[vf, vv, vr, nils] (0, 0) _ rfl hw5 Try.underlying35 rfl Try.size35) rfl ⟨vf, vv, vr, nils, cr, rfl, by rw [HRUN.out]; exact HE.out.store.fin (by rw [HZ.out]; exact World.ownsRow_nil _ _ _ _) hg5⟩
        · obtain ⟨g, cg, rfl⟩ := owns_form HOS.out hk0
          go_wp2_with (first
            | (go_at_call 28; refine (sort_call HOS.out HKR.out (by have := HI.out.b1; omega)).mono ?_; rintro e w2 ⟨rfl, ho2, hk2⟩; have HO2 := hid ho2; have HE2 := hid (HE.out.turn HOS.out rfl HAP.out hk2); clear ho2 hk2 e0 e1 e2 e3 f0 f1 f2 f3; obtain ⟨e0, e1, e2, e3, f0, f1, f2, f3⟩ := kcells HE2.out.blk)
            | (go_at_call 29; refine (compact_call HO2.out HKR.out (by have := HI.out.b1; omega)).mono ?_; rintro e w3 ⟨rfl, ho3, hk3⟩; have HO3 := hid ho3; have HE3 := hid (HE2.out.turn HO2.out rfl HAP.out hk3); clear ho3 hk3 e0 e1 e2 e3 f0 f1 f2 f3; obtain ⟨e0, e1, e2, e3, f0, f1, f2, f3⟩ := kcells HE3.out.blk)
            | (refine wpList_store_blk rfl 35 (.tmp 2) (.tmp 67) rfl w.heap.size #[vf, vv, vr, .slice (some ⟨g, 0, none⟩) (strs s).length cg] rfl rfl 35 #[nils, nils, nils, nils] HE3.out.store.res Try.size35 rfl (HE3.out.store.one (own_keep_store HO3.out (by omega))) ?_; intro w5 hw5 hg5))
          exact bodyPost_ret (results_cell_row rfl _ _ w.heap.size 35 #[vf, vv, vr, .slice (some ⟨g, 0, none⟩) (strs s).length cg] (0, 0) _ rfl hw5 Try.underlying35 rfl Try.size35) rfl ⟨vf, vv, vr, _, cr, rfl, by rw [HRUN.out]; exact HE3.out.store.fin (own_keep_store HO3.out (by omega)) hg5⟩
      · rcases (show ((cs k).1 = 0 ∨ (cs k).1 = 1) ∨ (cs k).1 = 2 ∨ (cs k).1 = 3 from by rcases HF.out.2.2 with h | h | h | h | h <;> simp [h.1] at ht ⊢) with h01 | h2 | h3
        · go_upto_region 9 with (first
            | (go_at_call 25; refine (kind_yes HF.out (by omega) HI.out.inv.rd (by have := HI.out.b1; omega) ht).mono ?_; rintro e w1 ⟨rfl, v1, hr1, hs1⟩; obtain ⟨gv, cv, rfl⟩ := rd_form hr1; have HI1 := hid (HI.out.inv.read hr1 hs1); clear hr1 hs1; have HF1 := hid (HI1.out.facts HS.out HCELL.out HCJ.out k hkn))
            | (go_at_call 26; refine (rule_yes _ (pb k) (po k) w.heap.size _ _ _ (xf k) HF1.out.1 HF1.out.2.2 h01).mono ?_; rintro e w2 ⟨k2, o2, rfl, hk2, hk3, hc2, hb2⟩; have HI2 := hid (HI1.out.below hb2)))
          clear hb2
          have hlf : (s.read (cs k).2.2).fs.length ≤ 4096 := by have := HI.out.b2; show s.fs.length ≤ 4096; omega
          obtain ⟨e0, e1, e2, e3, f0, f1, f2, f3⟩ := kcells HI2.out.blk
          go_upto_region 10 with (first
            | (at_builtin; refine wpList_append_step _ rfl _ _ 23 rfl w0.heap.size 3 i3 _ 1 8 Try.underlying23 hi3 hz30 hz31 hz32 rfl (by decide) vf (s.read (cs k).2.2).fs.length (ints (s.read (cs k).2.2).fs) rfl (HI2.out.of.alloc _) ⟨w2.heap.size, 0, none⟩ 1 1 [.int .i64 (cs k).2.1] rfl rfl
                (World.news_of_block (cs := #[.int .i64 (cs k).2.1]) (t := 3) (fr := (0, 0)) (heap_alloc_new w2 _)) (by simp [Value.oneCell']) (by simp [maxLen]; omega) (by omega) (by have := HI2.out.kept.size; simp; omega) ?_; intro u3 w3 ho3 hs3; obtain ⟨g3, c3, rfl⟩ := owns_form ho3 (by omega); obtain ⟨d0, d1, d2, d3, q0, q1, q2, q3⟩ := kcells ((HI2.out.alloc _).kblk (HI2.out.of.alloc _) hs3.one)))
          have HI4 := hid ((HI2.out.alloc _).addF ho3 hs3.one)
          clear d0 d1 d2 d3 q0 q1 q2 q3 e0 e1 e2 e3 f0 f1 f2 f3 ho3 hs3
          generalize World.setCell w3 _ _ = w4 at HI4 ⊢
          obtain ⟨r0, r1, r2, r3, r4, r5⟩ := four HS.out HI1.out HI4.out hk2 hc2
          obtain ⟨e0, e1, e2, e3, f0, f1, f2, f3⟩ := kcells HI4.out.blk
          have hlv : s.vs.length ≤ 4096 := by have := HI.out.b3; omega
          go_region_law
            ((refine step_append_step _ (by rfl) _ _ _ (by rfl) w0.heap.size 30 i30 _ 4 48 Try.underlying25 hi30 hz300 hz301 hz302 rfl (by omega) vv s.vs.length (opnds s.vs) (by rfl) (HI4.out.ov.alloc _).drew
                ⟨w4.heap.size, 0, none⟩ 1 1 (opnd (fieldV false (cs k).2.2)).toList (by rfl) (by rfl) (World.news_of_block (cs := opnd (fieldV false (cs k).2.2)) (t := 30) (fr := (0, 0)) (heap_alloc_new w4 _)) (by simp [Value.oneCell'])
                (by simp [maxLen]; omega) (by omega) (by have := HI4.out.kept.size; simp; omega) ?_; intro u5 w5 ho5 hs5; obtain ⟨g5, c5, rfl⟩ := owns_form ho5 (by omega); obtain ⟨d0, d1, d2, d3, q0, q1, q2, q3⟩ := kcells ((HI4.out.alloc _).drew.kblk (HI4.out.ov.alloc _).drew hs5)))
          all_goals
            have HI6 := hid ((HI4.out.alloc _).drew.addV ho5 hs5)
            clear d0 d1 d2 d3 q0 q1 q2 q3 e0 e1 e2 e3 f0 f1 f2 f3 ho5 hs5 r0 r1 r2 r3 r4 r5
            generalize World.setCell w5 _ _ = w6 at HI6 ⊢
            obtain ⟨e0, e1, e2, e3, f0, f1, f2, f3⟩ := kcells HI6.out.blk
            have hR6 : w6.cell? ⟨w.heap.size + 1 + 1, 0, none⟩ = some _ := cell_of_one HI6.out.rd.blk
            go_wp2_with fail
            go_roundw
            case rel =>
              have HM := HI6.out.mark (by simp [KS.read])
              exact ⟨k + 1, _, _, _, _, _, cr, s.step (cs k), by omega, by go_num, HI.out.next01 (HL.out k hkn) h01 HM⟩
            case measure => simp [intOf]; omega
        · go_upto_region 14 with (first
            | (go_at_call 25; refine (kind_yes HF.out (by omega) HI.out.inv.rd (by have := HI.out.b1; omega) ht).mono ?_; rintro e w1 ⟨rfl, v1, hr1, hs1⟩; obtain ⟨gv, cv, rfl⟩ := rd_form hr1; have HI1 := hid (HI.out.inv.read hr1 hs1); clear hr1 hs1; have HF1 := hid (HI1.out.facts HS.out HCELL.out HCJ.out k hkn))
            | (go_at_call 26; refine (rule_no _ (pb k) (po k) w.heap.size _ _ _ (xf k) HF1.out.1 HF1.out.2.2 (.inl h2)).mono ?_; rintro e w2 ⟨rfl, rfl⟩)
            | (go_at_call 27; refine (role_yes _ (pb k) (po k) w.heap.size (cs k).2.1 (cs k).2.2 (xf k) HF1.out.1 HF1.out.2.1 (h2 ▸ HF1.out.2.2)).mono ?_; rintro e w2 ⟨k2, rfl, hb2⟩; have HI2 := hid (HI1.out.below hb2); clear hb2))
          have hlr : (s.read (cs k).2.2).rs.length ≤ 4096 := by have := HI.out.b4; show s.rs.length ≤ 4096; omega
          have HI3 := hid (HI2.out.alloc (.cells #[.pointer (some ⟨k2, 0, none⟩), .int .i64 (cs k).2.1] 73))
          obtain ⟨e0, e1, e2, e3, f0, f1, f2, f3⟩ := kcells HI3.out.blk
          go_upto_region 15 with (first
            | (at_builtin; refine wpList_append_step _ rfl _ _ 33 rfl w0.heap.size 73 i73 _ 2 16 Try.underlying33 hi73 hz730 hz731 hz732 rfl (by decide) vr (s.read (cs k).2.2).rs.length cr rfl (HI3.out.or.alloc _) ⟨w2.heap.size + 1, 0, none⟩ 1 1 [.pointer (some ⟨k2, 0, none⟩), .int .i64 (cs k).2.1] rfl rfl
                (World.news_of_block (cs := #[.pointer (some ⟨k2, 0, none⟩), .int .i64 (cs k).2.1]) (t := 73) (fr := (0, 0)) (heap_alloc2_new w2 _ _)) (by simp [Value.oneCell']) (by simp [maxLen]; omega) (by omega) (by have := HI2.out.kept.size; simp; omega) ?_; intro u3 w3 ho3 hs3; obtain ⟨g3, c3, rfl⟩ := owns_form ho3 (by omega); obtain ⟨d0, d1, d2, d3, q0, q1, q2, q3⟩ := kcells ((HI3.out.alloc _).kblk (HI3.out.or.alloc _) hs3)))
          have HI6 := hid ((HI3.out.alloc _).addR ho3 hs3)
          clear d0 d1 d2 d3 q0 q1 q2 q3 e0 e1 e2 e3 f0 f1 f2 f3 ho3 hs3
          generalize World.setCell w3 _ _ = w6 at HI6 ⊢
          obtain ⟨e0, e1, e2, e3, f0, f1, f2, f3⟩ := kcells HI6.out.blk
          have hR6 : w6.cell? ⟨w.heap.size + 1 + 1, 0, none⟩ = some _ := cell_of_one HI6.out.rd.blk
          go_wp2_with fail
          go_roundw
          case rel =>
            have HM := HI6.out.mark (by simp [KS.read])
            exact ⟨k + 1, _, _, _, _, _, _, s.step (cs k), by omega, by go_num, HI.out.next2 (HL.out k hkn) h2 HM⟩
          case measure => simp [intOf]; omega
        · go_wp2_with (first
            | (go_at_call 25; refine (kind_yes HF.out (by omega) HI.out.inv.rd (by have := HI.out.b1; omega) ht).mono ?_; rintro e w1 ⟨rfl, v1, hr1, hs1⟩; have HI1 := hid (HI.out.inv.read hr1 hs1); clear hr1 hs1; have HF1 := hid (HI1.out.facts HS.out HCELL.out HCJ.out k hkn))
            | (go_at_call 26; refine (rule_no _ (pb k) (po k) w.heap.size _ _ _ (xf k) HF1.out.1 HF1.out.2.2 (.inr h3)).mono ?_; rintro e w2 ⟨rfl, rfl⟩)
            | (go_at_call 27; refine (role_no _ (pb k) (po k) w.heap.size (cs k).2.1 (cs k).2.2 (xf k) HF1.out.1 HF1.out.2.1 (h3 ▸ HF1.out.2.2)).mono ?_; rintro e w2 ⟨rfl, hb2⟩; have HI2 := hid (HI1.out.below hb2); clear hb2))
          go_roundw
          case rel => exact ⟨k + 1, _, _, _, _, _, _, s.step (cs k), by omega, by go_num, HI.out.next3 (HL.out k hkn) h3 (HI2.out.alloc _)⟩
          case measure => simp [intOf]; omega
    · obtain rfl : k = n := by omega
      have hrun : runK KS.init l = s := by rw [HI.out.run, List.drop_of_length_le (by omega), runK]
      have HRUN := hid hrun
      clear hrun
      go_upto_region 17 with fail
      have HE := hid (HI.out.inv.toE HS.out)
      have HOS := hid HI.out.inv.os
      have HAP := hid HI.out.inv.aps
      have HKR := hid HI.out.inv.kr
      have hlt := HE.out.lt
      obtain ⟨e0, e1, e2, e3, f0, f1, f2, f3⟩ := kcells HE.out.blk
      rcases HI.out.inv.nil with ⟨rfl, hk0⟩ | hk0
      · have HZ := hid (strs_nil s hk0)
        go_wp2_with (first
          | (go_at_call 28; refine (Try.slices_Sort_int_none none 0 _).mono ?_; rintro e w2 ⟨rfl, rfl⟩)
          | (go_at_call 29; refine (Try.slices_Compact_int_empty none 0 _).mono ?_; rintro e w3 ⟨rfl, rfl⟩)
          | (refine wpList_store_blk rfl 35 (.tmp 2) (.tmp 67) rfl w.heap.size #[vf, vv, vr, nils] rfl rfl 35 #[nils, nils, nils, nils] HE.out.store.res Try.size35 rfl (HE.out.one (World.ownsRow_nil _ _ _ _)) ?_; intro w5 hw5 hg5))
        exact bodyPost_ret (results_cell_row rfl _ _ w.heap.size 35 #[vf, vv, vr, nils] (0, 0) _ rfl hw5 Try.underlying35 rfl Try.size35) rfl ⟨vf, vv, vr, nils, cr, rfl, by rw [HRUN.out]; exact HE.out.store.fin (by rw [HZ.out]; exact World.ownsRow_nil _ _ _ _) hg5⟩
      · obtain ⟨g, cg, rfl⟩ := owns_form HOS.out hk0
        go_wp2_with (first
          | (go_at_call 28; refine (sort_call HOS.out HKR.out (by have := HI.out.b1; omega)).mono ?_; rintro e w2 ⟨rfl, ho2, hk2⟩; have HO2 := hid ho2; have HE2 := hid (HE.out.turn HOS.out rfl HAP.out hk2); clear ho2 hk2 e0 e1 e2 e3 f0 f1 f2 f3; obtain ⟨e0, e1, e2, e3, f0, f1, f2, f3⟩ := kcells HE2.out.blk)
          | (go_at_call 29; refine (compact_call HO2.out HKR.out (by have := HI.out.b1; omega)).mono ?_; rintro e w3 ⟨rfl, ho3, hk3⟩; have HO3 := hid ho3; have HE3 := hid (HE2.out.turn HO2.out rfl HAP.out hk3); clear ho3 hk3 e0 e1 e2 e3 f0 f1 f2 f3; obtain ⟨e0, e1, e2, e3, f0, f1, f2, f3⟩ := kcells HE3.out.blk)
          | (refine wpList_store_blk rfl 35 (.tmp 2) (.tmp 67) rfl w.heap.size #[vf, vv, vr, .slice (some ⟨g, 0, none⟩) (strs s).length cg] rfl rfl 35 #[nils, nils, nils, nils] HE3.out.store.res Try.size35 rfl (HE3.out.store.one (own_keep_store HO3.out (by omega))) ?_; intro w5 hw5 hg5))
        exact bodyPost_ret (results_cell_row rfl _ _ w.heap.size 35 #[vf, vv, vr, .slice (some ⟨g, 0, none⟩) (strs s).length cg] (0, 0) _ rfl hw5 Try.underlying35 rfl Try.size35) rfl ⟨vf, vv, vr, _, cr, rfl, by rw [HRUN.out]; exact HE3.out.store.fin (own_keep_store HO3.out (by omega)) hg5⟩
end Go.Proofs.Qxb6614485a
