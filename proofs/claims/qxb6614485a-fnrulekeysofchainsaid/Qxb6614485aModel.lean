/- modelKeys (9). -/
import Derived.Test.Qxb6614485aInv
import Derived.Deep.DeepCutAuto
import Derived.BigRegion
import Derived.Deep.RegionLaw
namespace Go.Proofs.Qxb6614485a
open Go.RowKit
structure MInv (w0 wr : World) (M : Nat) (vf vv vr vd : Value) (s : KS) : Prop where
  blk : wr.heap[M]? = some (.cells #[vf, vv, vr, vd, .int .i64 s.kr] 40 (0, 0))
  of : wr.ownsRow w0.heap.size 3 1 vf s.fs.length (ints s.fs)
  ov : wr.ownsRow w0.heap.size 3 1 vv s.vs.length (ints s.vs)
  or : wr.ownsRow w0.heap.size 3 1 vr s.rs.length (ints s.rs)
  od : wr.ownsRow w0.heap.size 3 1 vd s.rd.length (ints s.rd)
  a1 : Apart vf vv
  a2 : Apart vf vr
  a3 : Apart vf vd
  a4 : Apart vv vr
  a5 : Apart vv vd
  a6 : Apart vr vd
  kept : Kept w0 wr (· = M)
  ml : M < w0.heap.size
section
variable {w0 wr w1 : World} {M : Nat} {vf vv vr vd : Value} {s : KS}
theorem MInv.kept1 (h : MInv w0 wr M vf vv vr vd s) (hk : Kept wr w1 (fun _ => False)) : MInv w0 w1 M vf vv vr vd s :=
  ⟨by rw [hk.block M (lt_of_block h.blk) (by simp)]; exact h.blk, hk.owns h.of (fun _ h => h.elim), hk.owns h.ov (fun _ h => h.elim), hk.owns h.or (fun _ h => h.elim), hk.owns h.od (fun _ h => h.elim),
    h.a1, h.a2, h.a3, h.a4, h.a5, h.a6, h.kept.trans hk (fun _ _ h => h.elim), h.ml⟩
theorem MInv.alloc (h : MInv w0 wr M vf vv vr vd s) (o : Obj) : MInv w0 (wr.alloc o).drew M vf vv vr vd s := h.kept1 ((Kept.refl _ _).alloc o).drew
theorem MInv.notM (h : MInv w0 wr M vf vv vr vd s) {n : Nat} {u : Value} {xs : List Value} (ho : wr.ownsRow w0.heap.size 3 1 u n xs) : some M ≠ u.ownBlock := fun e => by
  have h1 := h.ml
  have := ho.lt M e.symm
  omega
theorem mset {w : World} {M : Nat} {cs : Array Value} {i : Nat} {u : Value} (h : w.heap[M]? = some (.cells cs 40 (0, 0))) : (w.setCell ⟨M, i, none⟩ u).heap[M]? = some (.cells (cs.setIfInBounds i u) 40 (0, 0)) :=
  heap_setCell_same w M i cs 40 u h
theorem MInv.other (h : MInv w0 wr M vf vv vr vd s) {u u' : Value} {i N n : Nat} {xs : List Value} (hu : wr.ownsRow w0.heap.size 3 1 u n xs) (hs : Step (fun _ => False) wr w1 u u' N) :
    (∀ {m y ys}, wr.ownsRow w0.heap.size 3 1 y m ys → Apart y u → (w1.setCell ⟨M, i, none⟩ u').ownsRow w0.heap.size 3 1 y m ys) ∧
    (∀ {m ys}, w1.ownsRow w0.heap.size 3 1 u' m ys → (w1.setCell ⟨M, i, none⟩ u').ownsRow w0.heap.size 3 1 u' m ys) ∧
    (w1.setCell ⟨M, i, none⟩ u').heap[M]? = some (.cells (#[vf, vv, vr, vd, .int .i64 s.kr].setIfInBounds i u') 40 (0, 0)) ∧ Kept w0 (w1.setCell ⟨M, i, none⟩ u') (· = M) := by
  have hM := h.notM hu
  have hk : Kept w1 (w1.setCell ⟨M, i, none⟩ u') (· = M) := (Kept.refl _ _).setCell _ _ rfl
  have hS : ∀ j, j = M → j < w0.heap.size := fun j hj => by rw [hj]; exact h.ml
  have hbM : w1.heap[M]? = some (.cells #[vf, vv, vr, vd, .int .i64 s.kr] 40 (0, 0)) := by rw [hs.kept.block M (lt_of_block h.blk) (fun hx => hx.elim id hM)]; exact h.blk
  refine ⟨fun hy ha => hk.owns (hs.keep hy (fun _ h => h.elim) (.inl ha)) hS, fun hy => hk.owns hy hS, mset hbM, ?_⟩
  refine (h.kept.trans hs.kept ?_).trans hk (fun j _ h => h)
  rintro j hj (hx | hx)
  · exact hx.elim
  · have := hu.lt j hx.symm
    have := h.kept.size
    omega
theorem MInv.mblk (h : MInv w0 wr M vf vv vr vd s) {u u' : Value} {N n : Nat} {xs : List Value} (hu : wr.ownsRow w0.heap.size 3 1 u n xs) (hs : Step (fun _ => False) wr w1 u u' N) : w1.heap[M]? = some (.cells #[vf, vv, vr, vd, .int .i64 s.kr] 40 (0, 0)) := by
  rw [hs.kept.block M (lt_of_block h.blk) (fun hx => hx.elim id (h.notM hu))]; exact h.blk
theorem MInv.addF (h : MInv w0 wr M vf vv vr vd s) {a : Int} {u' : Value} {N : Nat} (ho : w1.ownsRow w0.heap.size 3 1 u' (s.fs.length + 1) (ints s.fs ++ [.int .i64 a])) (hs : Step (fun _ => False) wr w1 vf u' N) :
    MInv w0 (w1.setCell ⟨M, 0, none⟩ u') M u' vv vr vd { s with fs := s.fs ++ [a] } := by
  obtain ⟨k1, k2, k3, k4⟩ := h.other (i := 0) h.of hs
  exact ⟨by simpa using k3, by simpa [ints] using k2 ho, k1 h.ov h.a1.symm, k1 h.or h.a2.symm, k1 h.od h.a3.symm, (hs.apart h.ov h.a1.symm).symm, (hs.apart h.or h.a2.symm).symm, (hs.apart h.od h.a3.symm).symm, h.a4, h.a5, h.a6, k4, h.ml⟩
theorem MInv.addV (h : MInv w0 wr M vf vv vr vd s) {a : Int} {u' : Value} {N : Nat} (ho : w1.ownsRow w0.heap.size 3 1 u' (s.vs.length + 1) (ints s.vs ++ [.int .i64 a])) (hs : Step (fun _ => False) wr w1 vv u' N) :
    MInv w0 (w1.setCell ⟨M, 1, none⟩ u') M vf u' vr vd { s with vs := s.vs ++ [a] } := by
  obtain ⟨k1, k2, k3, k4⟩ := h.other (i := 1) h.ov hs
  exact ⟨by simpa using k3, k1 h.of h.a1, by simpa [ints] using k2 ho, k1 h.or h.a4.symm, k1 h.od h.a5.symm, hs.apart h.of h.a1, h.a2, h.a3, (hs.apart h.or h.a4.symm).symm, (hs.apart h.od h.a5.symm).symm, h.a6, k4, h.ml⟩
theorem MInv.addR (h : MInv w0 wr M vf vv vr vd s) {a : Int} {u' : Value} {N : Nat} (ho : w1.ownsRow w0.heap.size 3 1 u' (s.rs.length + 1) (ints s.rs ++ [.int .i64 a])) (hs : Step (fun _ => False) wr w1 vr u' N) :
    MInv w0 (w1.setCell ⟨M, 2, none⟩ u') M vf vv u' vd { s with rs := s.rs ++ [a] } := by
  obtain ⟨k1, k2, k3, k4⟩ := h.other (i := 2) h.or hs
  exact ⟨by simpa using k3, k1 h.of h.a2, k1 h.ov h.a4, by simpa [ints] using k2 ho, k1 h.od h.a6.symm, h.a1, hs.apart h.of h.a2, h.a3, hs.apart h.ov h.a4, h.a5, (hs.apart h.od h.a6.symm).symm, k4, h.ml⟩
theorem MInv.addD (h : MInv w0 wr M vf vv vr vd s) {a : Int} {u' : Value} {N : Nat} (ho : w1.ownsRow w0.heap.size 3 1 u' (s.rd.length + 1) (ints s.rd ++ [.int .i64 a])) (hs : Step (fun _ => False) wr w1 vd u' N) :
    MInv w0 (w1.setCell ⟨M, 3, none⟩ u') M vf vv vr u' (s.read a) := by
  obtain ⟨k1, k2, k3, k4⟩ := h.other (i := 3) h.od hs
  exact ⟨by simpa [KS.read] using k3, k1 h.of h.a3, k1 h.ov h.a5, k1 h.or h.a6, by simpa [ints, KS.read] using k2 ho, h.a1, h.a2, hs.apart h.of h.a3, h.a4, hs.apart h.ov h.a5, hs.apart h.or h.a6, k4, h.ml⟩
theorem MInv.mark (h : MInv w0 wr M vf vv vr vd s) : MInv w0 (wr.setCell ⟨M, 4, none⟩ (.int .i64 s.rd.length)) M vf vv vr vd s.mark := by
  have hk : Kept wr (wr.setCell ⟨M, 4, none⟩ (.int .i64 s.rd.length)) (· = M) := (Kept.refl _ _).setCell _ _ rfl
  have hS : ∀ j, j = M → j < w0.heap.size := fun j hj => by rw [hj]; exact h.ml
  exact ⟨by simpa [KS.mark] using mset (i := 4) (u := .int .i64 s.rd.length) h.blk, hk.owns h.of hS, hk.owns h.ov hS, hk.owns h.or hS, hk.owns h.od hS, h.a1, h.a2, h.a3, h.a4, h.a5, h.a6, h.kept.trans hk (fun j _ h => h), h.ml⟩
theorem MInv.mark' (h : MInv w0 wr M vf vv vr vd s) {q : Int} (hq : q = s.rd.length) : MInv w0 (wr.setCell ⟨M, 4, none⟩ (.int .i64 q)) M vf vv vr vd s.mark := by
  subst hq; exact h.mark
end
theorem mcells {w : World} {K : Nat} {a b c d e : Value} (h : w.heap[K]? = some (.cells #[a, b, c, d, e] 40 (0, 0))) : w.cell? ⟨K, 0, none⟩ = some a ∧ w.cell? ⟨K, 1, none⟩ = some b ∧ w.cell? ⟨K, 2, none⟩ = some c ∧ w.cell? ⟨K, 3, none⟩ = some d ∧ w.cell? ⟨K, 4, none⟩ = some e ∧
    w.frozen? ⟨K, 0, none⟩ = false ∧ w.frozen? ⟨K, 1, none⟩ = false ∧ w.frozen? ⟨K, 2, none⟩ = false ∧ w.frozen? ⟨K, 3, none⟩ = false ∧ w.frozen? ⟨K, 4, none⟩ = false := by
  refine ⟨?_, ?_, ?_, ?_, ?_, frozen_of_row _ _ _ _ _ h, frozen_of_row _ _ _ _ _ h, frozen_of_row _ _ _ _ _ h, frozen_of_row _ _ _ _ _ h, frozen_of_row _ _ _ _ _ h⟩ <;> (rw [cell_of_row w K _ _ 40 (0, 0) h]; rfl)
abbrev nilm : Value := .slice none 0 0
abbrev mzero : Array Value := #[nilm, nilm, nilm, nilm, .int .i64 0]
theorem mstart (w : World) : MInv ((w.alloc (.cells mzero 40)).alloc (.cells mzero 40)) ((w.alloc (.cells mzero 40)).alloc (.cells mzero 40)) (w.heap.size + 1) nilm nilm nilm nilm KS.init :=
  ⟨heap_alloc2_new _ _ _, World.ownsRow_nil _ _ _ _, World.ownsRow_nil _ _ _ _, World.ownsRow_nil _ _ _ _, World.ownsRow_nil _ _ _ _, apart_nil _, apart_nil _, apart_nil _, apart_nil _, apart_nil _, apart_nil _, Kept.refl _ _, by simp⟩
structure LM (w wr : World) (l : List (Int × Int × Int)) (k : Nat) (vf vv vr vd : Value) (s : KS) : Prop where
  inv : MInv ((w.alloc (.cells mzero 40)).alloc (.cells mzero 40)) wr (w.heap.size + 1) vf vv vr vd s
  run : runK KS.init l = runK s (l.drop k)
  b1 : s.rd.length ≤ k
  b2 : s.fs.length ≤ k
  b3 : s.vs.length ≤ k
  b4 : s.rs.length ≤ k
theorem KS.bounds (s : KS) (c : Int × Int × Int) (k : Nat) (h1 : s.rd.length ≤ k) (h2 : s.fs.length ≤ k) (h3 : s.vs.length ≤ k) (h4 : s.rs.length ≤ k) :
    (s.step c).rd.length ≤ k + 1 ∧ (s.step c).fs.length ≤ k + 1 ∧ (s.step c).vs.length ≤ k + 1 ∧ (s.step c).rs.length ≤ k + 1 := by
  unfold KS.step
  split
  · simp [KS.read, KS.eq, KS.mark]; omega
  · split <;> simp [KS.read, KS.role, KS.mark] <;> omega
theorem LM.next {w wr w' : World} {l : List (Int × Int × Int)} {k : Nat} {vf vv vr vd vf' vv' vr' vd' : Value} {s : KS} {c : Int × Int × Int} (h : LM w wr l k vf vv vr vd s) (hl : l.drop k = c :: l.drop (k + 1)) (ht : c.1 ≠ 4)
    (hi : MInv ((w.alloc (.cells mzero 40)).alloc (.cells mzero 40)) w' (w.heap.size + 1) vf' vv' vr' vd' (s.step c)) : LM w w' l (k + 1) vf' vv' vr' vd' (s.step c) := by
  have hb := s.bounds c k h.b1 h.b2 h.b3 h.b4
  exact ⟨hi, by rw [h.run, hl, runK, if_neg ht], hb.1, hb.2.1, hb.2.2.1, hb.2.2.2⟩
theorem LM.next01 {w wr w' : World} {l : List (Int × Int × Int)} {k : Nat} {vf vv vr vd vf' vv' vr' vd' : Value} {s : KS} {c : Int × Int × Int} (h : LM w wr l k vf vv vr vd s) (hl : l.drop k = c :: l.drop (k + 1)) (h01 : c.1 = 0 ∨ c.1 = 1)
    (hi : MInv ((w.alloc (.cells mzero 40)).alloc (.cells mzero 40)) w' (w.heap.size + 1) vf' vv' vr' vd' (((s.read c.2.2).eq c.2.1 c.2.2).mark)) : LM w w' l (k + 1) vf' vv' vr' vd' (s.step c) :=
  h.next hl (by omega) (by rw [KS.step, if_pos h01]; exact hi)
theorem LM.next2 {w wr w' : World} {l : List (Int × Int × Int)} {k : Nat} {vf vv vr vd vf' vv' vr' vd' : Value} {s : KS} {c : Int × Int × Int} (h : LM w wr l k vf vv vr vd s) (hl : l.drop k = c :: l.drop (k + 1)) (h2 : c.1 = 2)
    (hi : MInv ((w.alloc (.cells mzero 40)).alloc (.cells mzero 40)) w' (w.heap.size + 1) vf' vv' vr' vd' (((s.read c.2.2).role c.2.1).mark)) : LM w w' l (k + 1) vf' vv' vr' vd' (s.step c) :=
  h.next hl (by omega) (by rw [KS.step, if_neg (by omega), if_pos h2]; exact hi)
theorem LM.next3 {w wr w' : World} {l : List (Int × Int × Int)} {k : Nat} {vf vv vr vd vf' vv' vr' vd' : Value} {s : KS} {c : Int × Int × Int} (h : LM w wr l k vf vv vr vd s) (hl : l.drop k = c :: l.drop (k + 1)) (h3 : c.1 = 3)
    (hi : MInv ((w.alloc (.cells mzero 40)).alloc (.cells mzero 40)) w' (w.heap.size + 1) vf' vv' vr' vd' (s.read c.2.2)) : LM w w' l (k + 1) vf' vv' vr' vd' (s.step c) :=
  h.next hl (by omega) (by rw [KS.step, if_neg (by omega), if_neg (by omega)]; exact hi)
theorem MInv.old {w wr : World} {vf vv vr vd : Value} {s : KS} (h : MInv ((w.alloc (.cells mzero 40)).alloc (.cells mzero 40)) wr (w.heap.size + 1) vf vv vr vd s) (p : Addr) (hp : p.block < w.heap.size) : wr.cell? p = w.cell? p := by
  refine World.cell?_of_block (w := w) ?_
  rw [h.kept.block _ (by simp; omega) (by omega), Below.heap_alloc _ _ _ (by simp; omega), Below.heap_alloc _ _ _ hp]
theorem Try.size40 : (Try.prog.info? 40).map (·.size) = some 5 := by kernel_rfl
theorem MInv.res {w wr : World} {vf vv vr vd : Value} {s : KS} (h : MInv ((w.alloc (.cells mzero 40)).alloc (.cells mzero 40)) wr (w.heap.size + 1) vf vv vr vd s) : wr.heap[w.heap.size]? = some (.cells mzero 40 (0, 0)) := by
  rw [h.kept.block _ (by simp; omega) (by omega)]; exact heap_alloc2_old _ _ _
theorem owns_one' {w : World} {b : Nat} {e : TypeId} {size m : Nat} {u : Value} {ys : List Value} (h : w.ownsRow b e size u m ys) : u.oneCell' = true := by
  rcases h.2 with ⟨rfl, _⟩ | ⟨g, cap, _, rfl, _⟩ <;> rfl
theorem MInv.one {w0 wr : World} {M : Nat} {vf vv vr vd : Value} {s : KS} (h : MInv w0 wr M vf vv vr vd s) : #[vf, vv, vr, vd, .int .i64 s.kr].all (·.oneCell') = true := by
  have hi : (Value.int .i64 s.kr).oneCell' = true := rfl
  simp [owns_one' h.of, owns_one' h.ov, owns_one' h.or, owns_one' h.od, hi]
structure MPost (w w' : World) (vf vv vr vd : Value) (s : KS) : Prop where
  of : w'.ownsRow w.heap.size 3 1 vf s.fs.length (ints s.fs)
  ov : w'.ownsRow w.heap.size 3 1 vv s.vs.length (ints s.vs)
  or : w'.ownsRow w.heap.size 3 1 vr s.rs.length (ints s.rs)
  od : w'.ownsRow w.heap.size 3 1 vd s.rd.length (ints s.rd)
  below : Below w.heap.size w w'
theorem MInv.fin {w wr w' : World} {vf vv vr vd : Value} {s : KS} (h : MInv ((w.alloc (.cells mzero 40)).alloc (.cells mzero 40)) wr (w.heap.size + 1) vf vv vr vd s) (hg : wr.grownBy w' (some w.heap.size)) : MPost w w' vf vv vr vd s := by
  have hk : Kept wr w' (· = w.heap.size) := Kept.ofGrown hg _ (fun j h => by simpa using h)
  have hS : ∀ j, j = w.heap.size → j < ((w.alloc (.cells mzero 40)).alloc (.cells mzero 40)).heap.size := fun j hj => by simp; omega
  have hle : w.heap.size ≤ ((w.alloc (.cells mzero 40)).alloc (.cells mzero 40)).heap.size := by simp; omega
  have hz := h.kept.size
  refine ⟨owns_base (hk.owns h.of hS) hle, owns_base (hk.owns h.ov hS) hle, owns_base (hk.owns h.or hS) hle, owns_base (hk.owns h.od hS) hle, ?_⟩
  exact ((below2 w _ _).trans (h.kept.below (B := w.heap.size) hle (fun j hj => by omega))).trans (hk.below (by omega) (fun j hj => by omega))
set_option maxHeartbeats 4000000 in
set_option maxRecDepth 100000 in
theorem model_any (w : World) (n tb ot ct ab ao ca bb bo cb : Nat) (cs : Nat → Int × Int × Int) (l : List (Int × Int × Int)) (hl : ∀ k, k < n → l.drop k = cs k :: l.drop (k + 1)) (hll : l.length = n) (hn : n ≤ 4096)
    (hT : ∀ i, i < n → w.cell? ⟨tb, ot + i, none⟩ = some (.int .u8 (cs i).1)) (hA : ∀ i, i < n → w.cell? ⟨ab, ao + i, none⟩ = some (.int .i64 (cs i).2.1)) (hB : ∀ i, i < n → w.cell? ⟨bb, bo + i, none⟩ = some (.int .i64 (cs i).2.2))
    (ht : tb < w.heap.size) (ha : ab < w.heap.size) (hb : bb < w.heap.size) (hr : ∀ i, i < n → 0 ≤ (cs i).1 ∧ (cs i).1 ≤ 4) :
    Calls Try.prog 9 #[.slice (some ⟨tb, ot, none⟩) n ct, .slice (some ⟨ab, ao, none⟩) n ca, .slice (some ⟨bb, bo, none⟩) n cb] w fun e w' => ∃ vf vv vr vd, e = .returned (.agg #[vf, vv, vr, vd, .int .i64 (runK KS.init l).kr]) ∧ MPost w w' vf vv vr vd (runK KS.init l) := by
  have HT := hid hT
  have HA := hid hA
  have HB := hid hB
  have HL := hid hl
  have HRG := hid hr
  clear hT hA hB hl hr
  obtain ⟨i3, hi3, hz30, hz31, hz32⟩ := info_parts Try.info3
  go_enter Try.func9, Try.ntmps9
  go_wp2_with fail
  go_loopw [8] (fun i wr => ∃ (k : Nat) (vf vv vr vd : Value) (s : KS), k ≤ n ∧ i = .int .i64 k ∧ LM w wr l k vf vv vr vd s) (fun i _ => n - (intOf i).toNat)
  case atStart => exact ⟨0, _, _, _, _, KS.init, Nat.zero_le _, rfl, mstart w, rfl, by simp [KS.init], by simp [KS.init], by simp [KS.init], by simp [KS.init]⟩
  case round =>
    obtain ⟨k, vf, vv, vr, vd, s, hk, rfl, hinv⟩ := hrel
    have HI := hid hinv
    have hz := hinv.inv.kept.size
    simp only [World.size_alloc] at hz
    clear hinv
    by_cases hkn : k < n
    · have hct := (HI.out.inv.old ⟨tb, ot + k, none⟩ ht).trans (HT.out k hkn)
      have hca := (HI.out.inv.old ⟨ab, ao + k, none⟩ ha).trans (HA.out k hkn)
      have hcb := (HI.out.inv.old ⟨bb, bo + k, none⟩ hb).trans (HB.out k hkn)
      have hMl : w.heap.size + 1 < wr.heap.size := lt_of_block HI.out.inv.blk
      have hbl : bb < wr.heap.size := by omega
      have hal : ab < wr.heap.size := by omega
      obtain ⟨h0, h4⟩ := HRG.out k hkn
      obtain ⟨e0, e1, e2, e3, e4, f0, f1, f2, f3, f4⟩ := mcells HI.out.inv.blk
      rcases (show (cs k).1 = 4 ∨ (cs k).1 < 4 from by omega) with h4' | h4'
      · have hrun : runK KS.init l = s := by rw [HI.out.run, HL.out k hkn, runK, if_pos h4']
        have HRUN := hid hrun
        clear hrun
        go_wp2_with (first
          | (refine wpList_store_blk rfl 40 (.tmp 6) (.tmp 74) rfl w.heap.size #[vf, vv, vr, vd, .int .i64 s.kr] rfl rfl 40 mzero HI.out.inv.res Try.size40 rfl HI.out.inv.one ?_; intro w5 hw5 hg5))
        exact bodyPost_ret (results_cell_row rfl _ _ w.heap.size 40 #[vf, vv, vr, vd, .int .i64 s.kr] (0, 0) _ rfl hw5 Try.underlying40 rfl Try.size40) rfl ⟨vf, vv, vr, vd, by rw [HRUN.out], by rw [HRUN.out]; exact HI.out.inv.fin hg5⟩
      · go_upto_region 6 with fail
        go_cut [] (fun wx => ∃ u, MInv ((w.alloc (.cells mzero 40)).alloc (.cells mzero 40)) wx (w.heap.size + 1) vf vv vr u (s.read (cs k).2.2))
        case first =>
          have hb1 : s.rd.length ≤ 4096 := by have := HI.out.b1; omega
          go_region_law
            ((refine step_append_step _ (by rfl) _ _ _ (by rfl) ((w.alloc (.cells mzero 40)).alloc (.cells mzero 40)).heap.size 3 i3 _ 1 8 Try.underlying23 hi3 hz30 hz31 hz32 rfl (by omega) vd s.rd.length (ints s.rd) (by rfl) (HI.out.inv.od.alloc _).drew
                ⟨wr.heap.size, 0, none⟩ 1 1 [.int .i64 (cs k).2.2] (by rfl) (by rfl) (World.news_of_block (cs := #[.int .i64 (cs k).2.2]) (t := 3) (fr := (0, 0)) (heap_alloc_new wr _)) (by simp [Value.oneCell'])
                (by simp [maxLen]; omega) (by omega) (by have := HI.out.inv.kept.size; simp at this ⊢; omega) ?_; intro u5 w5 ho5 hs5; obtain ⟨g5, c5, rfl⟩ := owns_form ho5 (by omega); obtain ⟨d0, d1, d2, d3, d4, q0, q1, q2, q3, q4⟩ := mcells ((HI.out.inv.alloc _).mblk (HI.out.inv.od.alloc _).drew hs5)))
          all_goals
            have HM := (HI.out.inv.alloc _).addD ho5 hs5
            go_wp2_with fail
            go_meet
            exact ⟨_, HM⟩
        case rest =>
          obtain ⟨vd1, HI1'⟩ := hcut
          obtain ⟨gd, cd, rfl⟩ : ∃ g cap, vd1 = .slice (some ⟨g, 0, none⟩) (s.rd.length + 1) cap := by simpa [KS.read] using owns_form HI1'.od (by simp [KS.read])
          have HI1 := hid HI1'
          clear HI1' hct hca hcb e0 e1 e2 e3 e4 f0 f1 f2 f3 f4
          have hct := (HI1.out.old ⟨tb, ot + k, none⟩ ht).trans (HT.out k hkn)
          have hca := (HI1.out.old ⟨ab, ao + k, none⟩ ha).trans (HA.out k hkn)
          have hcb := (HI1.out.old ⟨bb, bo + k, none⟩ hb).trans (HB.out k hkn)
          have hMl1 : w.heap.size + 1 < wc.heap.size := lt_of_block HI1.out.blk
          have hbl1 : bb < wc.heap.size := by omega
          have hal1 : ab < wc.heap.size := by omega
          clear hMl hbl hal
          obtain ⟨e0, e1, e2, e3, e4, f0, f1, f2, f3, f4⟩ := mcells HI1.out.blk
          rcases (show (cs k).1 ≤ 1 ∨ (cs k).1 = 2 ∨ (cs k).1 = 3 from by omega) with h1 | h2 | h3
          · have hlf : (s.read (cs k).2.2).fs.length ≤ 4096 := by have := HI.out.b2; show s.fs.length ≤ 4096; omega
            have hlv : s.vs.length ≤ 4096 := by have := HI.out.b3; omega
            go_upto_region 8 with fail
            go_cut [] (fun wx => ∃ g cap, MInv ((w.alloc (.cells mzero 40)).alloc (.cells mzero 40)) wx (w.heap.size + 1) (.slice (some ⟨g, 0, none⟩) (s.fs.length + 1) cap) vv vr (.slice (some ⟨gd, 0, none⟩) (s.rd.length + 1) cd) { (s.read (cs k).2.2) with fs := s.fs ++ [(cs k).2.1] })
            case first =>
              go_region_law
                ((refine step_append_step _ (by rfl) _ _ _ (by rfl) ((w.alloc (.cells mzero 40)).alloc (.cells mzero 40)).heap.size 3 i3 _ 1 8 Try.underlying23 hi3 hz30 hz31 hz32 rfl (by omega) vf (s.read (cs k).2.2).fs.length (ints (s.read (cs k).2.2).fs) (by rfl) (HI1.out.of.alloc _).drew
                    ⟨wc.heap.size, 0, none⟩ 1 1 [.int .i64 (cs k).2.1] (by rfl) (by rfl) (World.news_of_block (cs := #[.int .i64 (cs k).2.1]) (t := 3) (fr := (0, 0)) (heap_alloc_new wc _)) (by simp [Value.oneCell'])
                    (by simp [maxLen]; omega) (by omega) (by have := HI1.out.kept.size; simp at this ⊢; omega) ?_; intro u5 w5 ho5 hs5; obtain ⟨g5, c5, rfl⟩ := owns_form ho5 (by omega); obtain ⟨d0, d1, d2, d3, d4, q0, q1, q2, q3, q4⟩ := mcells ((HI1.out.alloc _).mblk (HI1.out.of.alloc _).drew hs5)))
              all_goals
                have HM := (HI1.out.alloc _).addF ho5 hs5
                go_wp2_with fail
                go_meet
                exact ⟨_, _, HM⟩
            case rest =>
              obtain ⟨gf, cf, HI2'⟩ := hcut
              have HI2 := hid HI2'
              clear HI2' hct hca hcb e0 e1 e2 e3 e4 f0 f1 f2 f3 f4
              have hcb := (HI2.out.old ⟨bb, bo + k, none⟩ hb).trans (HB.out k hkn)
              have hz2 := HI2.out.kept.size
              simp only [World.size_alloc] at hz2
              obtain ⟨e0, e1, e2, e3, e4, f0, f1, f2, f3, f4⟩ := mcells HI2.out.blk
              clear hMl1 hbl1 hal1
              have hMl1 : w.heap.size + 1 < wc.heap.size := lt_of_block HI2.out.blk
              have hbl1 : bb < wc.heap.size := by omega
              go_upto_region 9 with fail
              go_region_law
                ((refine step_append_step _ (by rfl) _ _ _ (by rfl) ((w.alloc (.cells mzero 40)).alloc (.cells mzero 40)).heap.size 3 i3 _ 1 8 Try.underlying23 hi3 hz30 hz31 hz32 rfl (by omega) vv s.vs.length (ints s.vs) (by rfl) (HI2.out.ov.alloc _).drew
                    ⟨wc.heap.size, 0, none⟩ 1 1 [.int .i64 (cs k).2.2] (by rfl) (by rfl) (World.news_of_block (cs := #[.int .i64 (cs k).2.2]) (t := 3) (fr := (0, 0)) (heap_alloc_new wc _)) (by simp [Value.oneCell'])
                    (by simp [maxLen]; omega) (by omega) (by have := HI2.out.kept.size; simp at this ⊢; omega) ?_; intro u5 w5 ho5 hs5; obtain ⟨g5, c5, rfl⟩ := owns_form ho5 (by omega); obtain ⟨d0, d1, d2, d3, d4, q0, q1, q2, q3, q4⟩ := mcells ((HI2.out.alloc _).mblk (HI2.out.ov.alloc _).drew hs5)))
              all_goals
                have HI3 := hid ((HI2.out.alloc _).addV ho5 hs5)
                clear d0 d1 d2 d3 d4 q0 q1 q2 q3 q4 e0 e1 e2 e3 e4 f0 f1 f2 f3 f4 ho5 hs5
                generalize World.setCell w5 _ _ = w6 at HI3 ⊢
                obtain ⟨e0, e1, e2, e3, e4, f0, f1, f2, f3, f4⟩ := mcells HI3.out.blk
                go_wp2_with fail
                go_roundw
                case rel => exact ⟨k + 1, _, _, _, _, s.step (cs k), by omega, by go_num, HI.out.next01 (HL.out k hkn) (by omega) (HI3.out.mark' (by simp [KS.read]))⟩
                case measure => simp [intOf]; omega
          · have hlr : (s.read (cs k).2.2).rs.length ≤ 4096 := by have := HI.out.b4; show s.rs.length ≤ 4096; omega
            go_upto_region 12 with fail
            go_region_law
              ((refine step_append_step _ (by rfl) _ _ _ (by rfl) ((w.alloc (.cells mzero 40)).alloc (.cells mzero 40)).heap.size 3 i3 _ 1 8 Try.underlying23 hi3 hz30 hz31 hz32 rfl (by omega) vr (s.read (cs k).2.2).rs.length (ints (s.read (cs k).2.2).rs) (by rfl) (HI1.out.or.alloc _).drew
                  ⟨wc.heap.size, 0, none⟩ 1 1 [.int .i64 (cs k).2.1] (by rfl) (by rfl) (World.news_of_block (cs := #[.int .i64 (cs k).2.1]) (t := 3) (fr := (0, 0)) (heap_alloc_new wc _)) (by simp [Value.oneCell'])
                  (by simp [maxLen]; omega) (by omega) (by have := HI1.out.kept.size; simp at this ⊢; omega) ?_; intro u5 w5 ho5 hs5; obtain ⟨g5, c5, rfl⟩ := owns_form ho5 (by omega); obtain ⟨d0, d1, d2, d3, d4, q0, q1, q2, q3, q4⟩ := mcells ((HI1.out.alloc _).mblk (HI1.out.or.alloc _).drew hs5)))
            all_goals
              have HI2 := hid ((HI1.out.alloc _).addR ho5 hs5)
              clear d0 d1 d2 d3 d4 q0 q1 q2 q3 q4 e0 e1 e2 e3 e4 f0 f1 f2 f3 f4 ho5 hs5
              generalize World.setCell w5 _ _ = w6 at HI2 ⊢
              obtain ⟨e0, e1, e2, e3, e4, f0, f1, f2, f3, f4⟩ := mcells HI2.out.blk
              go_wp2_with fail
              go_roundw
              case rel => exact ⟨k + 1, _, _, _, _, s.step (cs k), by omega, by go_num, HI.out.next2 (HL.out k hkn) h2 (HI2.out.mark' (by simp [KS.read]))⟩
              case measure => simp [intOf]; omega
          · go_wp2_with fail
            go_roundw
            case rel => exact ⟨k + 1, _, _, _, _, s.step (cs k), by omega, by go_num, HI.out.next3 (HL.out k hkn) h3 HI1.out⟩
            case measure => simp [intOf]; omega
    · obtain rfl : k = n := by omega
      have hrun : runK KS.init l = s := by rw [HI.out.run, List.drop_of_length_le (by omega), runK]
      have HRUN := hid hrun
      clear hrun
      obtain ⟨e0, e1, e2, e3, e4, f0, f1, f2, f3, f4⟩ := mcells HI.out.inv.blk
      go_wp2_with (first
        | (refine wpList_store_blk rfl 40 (.tmp 6) (.tmp 74) rfl w.heap.size #[vf, vv, vr, vd, .int .i64 s.kr] rfl rfl 40 mzero HI.out.inv.res Try.size40 rfl HI.out.inv.one ?_; intro w5 hw5 hg5))
      exact bodyPost_ret (results_cell_row rfl _ _ w.heap.size 40 #[vf, vv, vr, vd, .int .i64 s.kr] (0, 0) _ rfl hw5 Try.underlying40 rfl Try.size40) rfl ⟨vf, vv, vr, vd, by rw [HRUN.out], by rw [HRUN.out]; exact HI.out.inv.fin hg5⟩
end Go.Proofs.Qxb6614485a
