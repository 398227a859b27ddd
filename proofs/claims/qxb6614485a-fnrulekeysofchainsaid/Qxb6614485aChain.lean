/- The main function (3): the calls behind the slice of conjuncts. -/
import Derived.Test.Qxb6614485aParts
namespace Go.Proofs.Qxb6614485a
open Go.RowKit
theorem drop_map (cs : Nat → Int × Int × Int) (n k : Nat) (hk : k < n) : ((List.range n).map cs).drop k = cs k :: ((List.range n).map cs).drop (k + 1) := by
  rw [List.drop_eq_getElem_cons (by simpa using hk)]
  simp
theorem conj_not_all {w : World} {B : Nat} {t a b : Int} {x : Value} (h : IsConj w B t a b x) : ∀ w, (Instr.typeAssert x 27 43 true).run Try.prog w = .ok (.tuple #[.slice none 0 0, .bool false]) w := not_all h
theorem app_nil (w1 : World) (rb : Nat) (x : Value) (hc : w1.cell? ⟨rb, 0, none⟩ = some x) (hx : ∀ w, (Instr.typeAssert x 27 43 true).run Try.prog w = .ok (.tuple #[.slice none 0 0, .bool false]) w) :
    Calls Try.prog 24 #[.slice none 0 0, .pointer (some ⟨rb, 0, none⟩)] w1 fun e w' => ∃ v', e = .returned v' ∧ w'.ownsRow w1.heap.size 37 1 v' 1 (plist (fun _ => rb) (fun _ => 0) 1) ∧ Below w1.heap.size w1 w' := by
  refine (app_one w1 rb 0 0 w1.heap.size x (.slice none 0 0) [] hc hx (World.ownsRow_nil _ _ _ _) (Nat.le_refl _) (by omega)).mono ?_
  rintro e w' ⟨v', he, ho, hs⟩
  exact ⟨v', he, by simpa [plist] using ho, hs.kept.below (Nat.le_refl _) (fun j hj hx => by rcases hx with hx | hx <;> simp [Value.ownBlock] at hx)⟩
theorem chain1 {w wr : World} {g : Nat} {cs : Nat → Int × Int × Int} {xf : Nat → Value} (P : PInv w wr g 1 1 cs xf) :
    Calls Try.prog 7 #[.pointer (some ⟨wr.heap.size, 0, none⟩)] (wr.alloc (.cells (opnd (xf 0)) 30)) fun e w' => ∃ vf vv vr vz cr, e = .returned (.agg #[vf, vv, vr, vz]) ∧
      RPost (wr.alloc (.cells (opnd (xf 0)) 30)) w' vf vv vr vz cr (runK KS.init ((List.range 1).map cs)) (strs (runK KS.init ((List.range 1).map cs))) := by
  have hc : (wr.alloc (.cells (opnd (xf 0)) 30)).cell? ⟨wr.heap.size, 0, none⟩ = some (xf 0) := by
    rw [cell_of_row _ _ _ _ 30 (0, 0) (heap_alloc_new wr _)]; rfl
  have hj : IsConj (wr.alloc (.cells (opnd (xf 0)) 30)) (wr.alloc (.cells (opnd (xf 0)) 30)).heap.size (cs 0).1 (cs 0).2.1 (cs 0).2.2 (xf 0) := (P.cj 0 (by omega)).keep (by simp) (fun j hj => Below.heap_alloc wr _ _ hj)
  refine keys_any _ wr.heap.size 1 (fun _ => wr.heap.size) (fun _ => 0) cs xf _ (drop_map cs 1) (by simp) (by omega) (by omega) ?_ ?_ ?_
  · intro w1 hb
    exact app_nil w1 _ (xf 0) ((hb.cell (p := ⟨wr.heap.size, 0, none⟩) (by simp)).trans hc) (not_all hj)
  · intro i hi
    obtain rfl : i = 0 := by omega
    exact ⟨hc, by simp⟩
  · intro i hi
    obtain rfl : i = 0 := by omega
    exact hj
theorem chainN {w wr w3 : World} {g n rb : Nat} {cs : Nat → Int × Int × Int} {xf : Nat → Value} (P : PInv w wr g n n cs xf) (hn : n ≤ 4096) (h1 : 0 < n) (hr : w3.heap[rb]? = some (.cells (opnd (.iface 43 (.slice (some ⟨g, 0, none⟩) n n))) 30 (0, 0)))
    (hk : ∀ j, j < wr.heap.size → w3.heap[j]? = wr.heap[j]?) (hs : wr.heap.size ≤ w3.heap.size) :
    Calls Try.prog 7 #[.pointer (some ⟨rb, 0, none⟩)] w3 fun e w' => ∃ vf vv vr vz cr, e = .returned (.agg #[vf, vv, vr, vz]) ∧
      RPost w3 w' vf vv vr vz cr (runK KS.init ((List.range n).map cs)) (strs (runK KS.init ((List.range n).map cs))) := by
  have hlt := P.lt
  obtain ⟨cur, b1, b2, b3⟩ := P.blk
  have hc : w3.cell? ⟨rb, 0, none⟩ = some (.iface 43 (.slice (some ⟨g, 0, none⟩) n n)) := by rw [cell_of_row _ _ _ _ 30 (0, 0) hr]; rfl
  have hrl : rb < w3.heap.size := (Array.getElem?_eq_some_iff.1 hr).1
  have hx : ∀ i, i < n → w3.cell? ⟨g, i * 4, none⟩ = some (xf i) := fun i hi => by
    rw [World.cell?_of_block (w := wr) (hk g hlt), cell_of_row _ _ _ _ 30 (0, 0) b1]; exact (b3 i hi).1
  refine keys_any _ rb n (fun _ => g) (fun i => i * 4) cs xf _ (drop_map cs n) (by simp) hn h1 ?_ ?_ ?_
  · intro w1 hb
    have := app_all w1 rb 0 g n xf ((hb.cell (p := ⟨rb, 0, none⟩) hrl).trans hc) (by have := hb.size; omega) (fun i hi => (hb.cell (p := ⟨g, i * 4, none⟩) (by simp; omega)).trans (hx i hi)) (fun i hi => not_all (P.cj i hi)) (by omega)
    exact this
  · intro i hi
    exact ⟨hx i hi, by omega⟩
  · intro i hi
    exact (P.cj i hi).keep hs hk
/-- from the keys' call on -/
theorem RPost.keep {wa w5 w7 : World} {vf vv vr vz : Value} {cr : List Value} {s : KS} {Z : List Int} (h : RPost wa w5 vf vv vr vz cr s Z) (hk : Kept w5 w7 (fun _ => False)) :
    w7.ownsRow wa.heap.size 3 1 vf s.fs.length (ints s.fs) ∧ w7.ownsRow wa.heap.size 30 4 vv s.vs.length (opnds s.vs) ∧ w7.ownsRow wa.heap.size 73 2 vr s.rs.length cr ∧ w7.ownsRow wa.heap.size 3 1 vz Z.length (ints Z) :=
  ⟨hk.owns h.of (fun _ h => h.elim), hk.owns h.ov (fun _ h => h.elim), hk.owns h.or (fun _ h => h.elim), hk.owns h.oz (fun _ h => h.elim)⟩
theorem kept_new {w5 w6 : World} {o : Obj} (hg : (w5.alloc o).grownBy w6 (some w5.heap.size)) : Kept w5 w6 (fun _ => False) :=
  ((Kept.refl w5 (fun _ => False)).alloc o).trans (T := (· = w5.heap.size)) (Kept.ofGrown hg _ (fun j h => by simpa using h)) (fun j hj h => by omega)
theorem runK_small (l : List (Int × Int × Int)) : (runK KS.init l).fs.length ≤ l.length ∧ (runK KS.init l).rs.length ≤ l.length ∧ (runK KS.init l).rd.length ≤ l.length := by
  have := runK_len l KS.init 0 (by simp [KS.init])
  omega
/-- the last call -/
theorem last_call {wa w5 w6 w7 : World} {vf vv vr vz mf mv mr md : Value} {cr : List Value} {l : List (Int × Int × Int)} (hl : l.length ≤ 4096) (h : RPost wa w5 vf vv vr vz cr (runK KS.init l) (strs (runK KS.init l))) (hk : Kept w5 w6 (fun _ => False)) (hm : MPost w6 w7 mf mv mr md (runK KS.init l)) :
    Calls Try.prog 8 #[.agg #[vf, vv, vr, vz], .agg #[mf, mv, mr, md, .int .i64 (runK KS.init l).kr]] w7 fun e w' => e = .returned (.bool true) ∧ Below w7.heap.size w7 w' := by
  have hk7 : Kept w5 w7 (fun _ => False) := hk.trans (T := fun _ => False) (Kept.ofBelow hm.below _ (fun j h1 h2 => by omega)) (fun _ _ h => h)
  obtain ⟨o1, o2, o3, o4⟩ := h.keep hk7
  have hi := runK_inv l KS.init (by simp [KS.init])
  have hs := runK_small l
  exact meet w7 _ _ _ vf vv vr vz mf mv mr md cr hi.1 hi.2 (by omega) o1 o2 o3 h.rl o4 hm.of hm.ov hm.or hm.od
end Go.Proofs.Qxb6614485a
