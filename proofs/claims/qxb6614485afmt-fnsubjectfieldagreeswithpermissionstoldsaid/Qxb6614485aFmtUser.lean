/- PermissionsForUser (10). -/
import Derived.Test.Qxb6614485aFmtErr
import Derived.Test.Qxb6614485aFmtSorted
import Derived.Test.Qxb6614485aFmtLocks
import Derived.Conc.RwLone
namespace Go.Proofs.Qxb6614485aFmt
open Go.RowKit Go.Conc.Locks Go.RwLone
/-- the readers' count, set -/
theorem Enf.lock {w : World} {E Mo Po mT mR : Nat} {vF vR : Value} {sub rc : Int} (h : Enf w E Mo Po mT mR vF vR sub rc) (r : Int) : Enf (w.setCell ⟨E, 5, none⟩ (.int .i32 r)) E Mo Po mT mR vF vR sub r := by
  obtain ⟨o, q, eft, hm⟩ := h.mo
  have he := h.e
  refine ⟨heap_setCell_same w E 5 _ 69 _ he, ⟨o, q, eft, ?_⟩, ?_, ?_, ?_⟩
  · rw [heap_setCell_other _ _ _ _ (fun e => by simp only at e; subst e; rw [hm] at he; simp at he)]; exact hm
  · rw [heap_setCell_other _ _ _ _ (fun e => by simp only at e; subst e; rw [h.mt] at he; simp at he)]; exact h.mt
  · rw [heap_setCell_other _ _ _ _ (fun e => by simp only at e; subst e; rw [h.po] at he; simp at he)]; exact h.po
  · rw [heap_setCell_other _ _ _ _ (fun e => by simp only at e; subst e; rw [h.mr] at he; simp at he)]; exact h.mr
/-- the lock taken and given back: all that lay there lies there -/
theorem lock_below {w w2 : World} {E Mo Po mT mR : Nat} {vF vR : Value} {sub : Int} {o : Obj} (h : Enf w E Mo Po mT mR vF vR sub 0) (r r' : Int) (hr' : r' = 0) (hb : Below ((w.alloc o).setCell ⟨E, 5, none⟩ (.int .i32 r)).heap.size ((w.alloc o).setCell ⟨E, 5, none⟩ (.int .i32 r)) w2) :
    Below w.heap.size w (w2.setCell ⟨E, 5, none⟩ (.int .i32 r')) := by
  subst hr'
  have hE := blk_lt h.e
  have ha := h.keep ((Below.refl w.heap.size w).alloc (Nat.le_refl _) o)
  have h1 := ha.lock r
  have h2 := (h1.keep hb).lock 0
  have hz := hb.size
  simp at hz
  refine ⟨hb.os, hb.tape, hb.output, by simp; omega, fun k hk => ?_⟩
  by_cases hkE : k = E
  · subst hkE
    rw [h2.e, h.e]
  · rw [heap_setCell_other _ _ _ _ hkE, hb.block k (by simp; omega), heap_setCell_other _ _ _ _ hkE]
    exact Below.heap_alloc _ _ _ hk
theorem lockE {w w1 : World} {E Mo Po mT mR : Nat} {vF vR : Value} {sub : Int} {o : Obj} (h : Enf w E Mo Po mT mR vF vR sub 0) (hw : w1 = (w.alloc o).setCell ⟨E, 5, none⟩ (.int .i32 1)) : Enf w1 E Mo Po mT mR vF vR sub 1 := by
  subst hw
  exact (h.keep ((Below.refl w.heap.size w).alloc (Nat.le_refl _) o)).lock 1
theorem lockR {w w1 : World} {E Mo Po mT mR : Nat} {vF vR v : Value} {sub : Int} {o : Obj} {ss : List ByteArray} (hr : RowC (w.alloc o) v ss) (h : Enf w E Mo Po mT mR vF vR sub 0) (hw : w1 = (w.alloc o).setCell ⟨E, 5, none⟩ (.int .i32 1)) : RowC w1 v ss := by
  subst hw
  have h1 := h.keep ((Below.refl w.heap.size w).alloc (Nat.le_refl _) o)
  obtain ⟨_, _, _, _, k5, _⟩ := h1.cells
  exact ⟨hr.1.setCell k5 (by simp), hr.2⟩
theorem lockRows {w w1 : World} {E Mo Po mT mR : Nat} {vF vR v : Value} {sub : Int} {o : Obj} {rs : List (List ByteArray)} (hr : RowsAt (w.alloc o) v rs) (h : Enf w E Mo Po mT mR vF vR sub 0) (hw : w1 = (w.alloc o).setCell ⟨E, 5, none⟩ (.int .i32 1)) : RowsAt w1 v rs := by
  subst hw
  have h1 := h.keep ((Below.refl w.heap.size w).alloc (Nat.le_refl _) o)
  obtain ⟨_, _, _, _, k5, _⟩ := h1.cells
  obtain ⟨a, c, rfl, hx⟩ := hr
  refine ⟨a, c, rfl, hx.imp id ?_⟩
  rintro ⟨g, q, vf, h1, h2, h3⟩
  refine ⟨g, q, vf, h1, by simpa using h2, fun i hi => ⟨?_, (h3 i hi).2.setCell k5 (by simp)⟩⟩
  obtain ⟨av, nv, cv, ev⟩ := (h3 i hi).2.form
  rw [World.cell?_setCell_other _ _ _ _ (fun e => by rw [e, (h3 i hi).1, ev] at k5; simp at k5)]
  exact (h3 i hi).1
/-- the boxed name -/
theorem name_at {w w1 : World} {E Mo Po mT mR : Nat} {vF vR : Value} {sub : Int} {name : ByteArray} (h : Enf w E Mo Po mT mR vF vR sub 0) (hw : w1 = (w.alloc (.cells #[.string name] 9)).setCell ⟨E, 5, none⟩ (.int .i32 1)) : w.heap.size < w1.heap.size ∧ w1.cell? ⟨w.heap.size, 0, none⟩ = some (.string name) := by
  subst hw
  have hE := blk_lt h.e
  refine ⟨by simp, ?_⟩
  rw [World.cell?_setCell_other _ _ _ _ (fun e => by simp only [Addr.mk.injEq] at e; omega)]
  simp
/-- what the rest of PermissionsForUser reads, once the box of sub is laid -/
theorem at10 {w1 : World} {E Mo Po mT mR p : Nat} {vF vR : Value} {sub : Nat} {name : ByteArray} {rs : List (List ByteArray)} (h : Enf w1 E Mo Po mT mR vF vR sub 1) (hn : p < w1.heap.size ∧ w1.cell? ⟨p, 0, none⟩ = some (.string name)) (hr : RowsAt w1 vR rs) :
    ((w1.alloc (.cells #[.int .i64 sub] 3)).cell? ⟨E, 7, none⟩ = some (.pointer (some ⟨Po, 0, none⟩)) ∧ (w1.alloc (.cells #[.int .i64 sub] 3)).cell? ⟨Po, 0, none⟩ = some (.map (some mR)) ∧ E < w1.heap.size ∧ (Instr.lookup 46 (.map (some mR)) (.string ⟨#[112]⟩) false).run Tryf.prog (w1.alloc (.cells #[.int .i64 sub] 3)) = .ok vR (w1.alloc (.cells #[.int .i64 sub] 3))) ∧
    RowsAt (w1.alloc (.cells #[.int .i64 sub] 3)) vR rs ∧ w1.heap.size < (w1.alloc (.cells #[.int .i64 sub] 3)).heap.size ∧ p < (w1.alloc (.cells #[.int .i64 sub] 3)).heap.size ∧ (w1.alloc (.cells #[.int .i64 sub] 3)).cell? ⟨w1.heap.size, 0, none⟩ = some (.int .i64 sub) ∧ (w1.alloc (.cells #[.int .i64 sub] 3)).cell? ⟨p, 0, none⟩ = some (.string name) := by
  have hb : Below w1.heap.size w1 (w1.alloc (.cells #[.int .i64 sub] 3)) := (Below.refl _ _).alloc (Nat.le_refl _) _
  have h2 := h.keep hb
  obtain ⟨_, _, _, _, _, _, k7, _, _, k0⟩ := h2.cells
  exact ⟨⟨k7, k0, blk_lt h.e, run_lookup_one (P := Tryf.prog) _ 46 9 23 mR 1 0 vR Tryf.underlying46 Tryf.underlying9 h2.mr⟩, hr.keep hb, by simp, by simp; omega, by simp, (hb.cell (p := ⟨p, 0, none⟩) hn.1).trans hn.2⟩
/-- RLock (13) at an enforcer's lock that nobody holds -/
theorem rlock13 (w : World) (E Mo Po mT mR : Nat) (vF vR : Value) (sub : Int) (h : Enf w E Mo Po mT mR vF vR sub 0) :
    Calls Tryf.prog 13 #[.pointer (some ⟨E, 1, none⟩)] w fun e w' => e = .returned (.tuple #[]) ∧ w' = w.setCell ⟨E, 5, none⟩ (.int .i32 1) := by
  obtain ⟨_, k1, k3, k4, k5, kf, _⟩ := h.cells
  have e : wrap32 (0 + 1) = 1 := by simp [wrap32]
  have := rlock_open Tryf.rwRLib E 1 0 _ _ _ k1 k4 k5 kf (by rw [e]; omega)
  rw [e] at this
  exact this
/-- RUnlock (14), deferred -/
theorem runlock14 (w : World) (E Mo Po mT mR : Nat) (vF vR : Value) (sub : Int) (h : Enf w E Mo Po mT mR vF vR sub 1) :
    CallsD Tryf.prog 14 #[.pointer (some ⟨E, 1, none⟩)] .returning w fun e u' w' => u' = .returning ∧ (e = .returned (.tuple #[]) ∧ w' = w.setCell ⟨E, 5, none⟩ (.int .i32 0)) := by
  obtain ⟨_, k1, k3, k4, k5, kf, _⟩ := h.cells
  have e : wrap32 (1 + -1) = 0 := by simp [wrap32]
  have := runlock_deferred Tryf.rwRLib E 1 1 _ _ .returning _ k1 k3 k5 kf (by rw [e]; omega)
  rw [e] at this
  exact this
set_option maxHeartbeats 4000000 in
set_option maxRecDepth 100000 in
theorem user_no (w : World) (E Mo Po mT mR : Nat) (vF vR : Value) (sub : Int) (ss : List ByteArray) (name : ByteArray) (h : Enf w E Mo Po mT mR vF vR sub 0) (hs : sub < 0) (hv : RowC w vF ss) (hl : ss.length ≤ 2000000) (hj : (Lib.join (ss.map (·.data.toList)) [44, 32]).length ≤ 140737488355328) :
    Calls Tryf.prog 10 #[.pointer (some ⟨E, 0, none⟩), .string name] w fun e w' => ∃ a, e = .returned (.tuple #[.slice none 0 0, .iface 106 (.pointer (some a))]) ∧ Below w.heap.size w w' := by
  have hb0 : Below w.heap.size w (w.alloc (.cells #[.string name] 9)) := (Below.refl _ _).alloc (Nat.le_refl _) _
  have HE := hid h
  have HL := hid (rlock13 _ E Mo Po mT mR vF vR sub (h.keep hb0))
  have HV := hid (And.intro (hv.keep hb0) hj)
  clear h hv hj hb0
  go_enter_defers Tryf.func10, Tryf.ntmps10
  go_wp2_with (first
    | (go_at_call 13; refine HL.out.mono ?_; rintro e w1 ⟨rfl, hw1⟩; have HW1 := hid hw1; clear hw1)
    | (go_at_call 12; refine (sub_no w1 E Mo Po mT mR vF vR sub 1 ss (by exact lockE HE.out HW1.out) hs (by exact lockR HV.out.1 HE.out HW1.out) hl HV.out.2).mono ?_; rintro e w2 ⟨a, rfl, hb2⟩; have HB2 := hid hb2; clear hb2))
  have hE1 := lockE HE.out HW1.out
  have hb3 : Below w1.heap.size w1 (w2.alloc (.cells #[.int .i64 0] 3)) := HB2.out.alloc HB2.out.size _
  refine leaves_cons (f := 14) (args := #[.pointer (some ⟨E, 1, none⟩)]) (by simp) (by simp [go_sem]) ?_
  refine (runlock14 _ E Mo Po mT mR vF vR sub (hE1.keep hb3)).mono ?_
  rintro e u' w'' ⟨rfl, rfl, rfl⟩
  have hbw : Below w.heap.size w ((w2.alloc (.cells #[.int .i64 0] 3)).setCell ⟨E, 5, none⟩ (.int .i32 0)) := lock_below HE.out 1 0 rfl (by rw [← HW1.out]; exact hb3)
  exact ⟨_, results_tmp2 rfl _ _ _, _, rfl, hbw⟩
set_option maxHeartbeats 4000000 in
set_option maxRecDepth 100000 in
theorem user_yes (w : World) (E Mo Po mT mR : Nat) (vF vR : Value) (sub width : Nat) (rs : List (List ByteArray)) (name : ByteArray) (h : Enf w E Mo Po mT mR vF vR sub 0) (hr : RowsAt w vR rs) (hl : rs.length ≤ 100000) (hw : width ≤ 2000000) (hsw : sub < width) (hrw : ∀ i, i < rs.length → (rowAt rs i).length = width) :
    Calls Tryf.prog 10 #[.pointer (some ⟨E, 0, none⟩), .string name] w fun e w' => ∃ blk cap qs, e = .returned (.tuple #[.slice (some ⟨blk, 0, none⟩) (List.length (α := Pr) qs) cap, .nilIface]) ∧ w.heap.size ≤ blk ∧ blk < w'.heap.size ∧ qs.length ≤ rs.length ∧
      (∀ i, i < qs.length → w'.cell? ⟨blk, i, none⟩ = some (pt qs i).1 ∧ RowAt w' (pt qs i).1 (pt qs i).2) ∧ qs.Pairwise (fun a b => rc a.2 b.2 < 0) ∧
      (∀ q, q ∈ qs → ∃ i, i < rs.length ∧ kp sub name (rowAt rs i) = true ∧ rowAt rs i = q.2) ∧ (∀ i, i < rs.length → kp sub name (rowAt rs i) = true → ∃ q, q ∈ qs ∧ q.2 = rowAt rs i) ∧ Below w.heap.size w w' := by
  have hb0 : Below w.heap.size w (w.alloc (.cells #[.string name] 9)) := (Below.refl _ _).alloc (Nat.le_refl _) _
  have HE := hid h
  have HL := hid (rlock13 _ E Mo Po mT mR vF vR sub (h.keep hb0))
  have HV := hid (And.intro (hr.keep hb0) hrw)
  clear h hr hrw hb0
  go_enter_defers Tryf.func10, Tryf.ntmps10
  go_wp2_with (first
    | (go_at_call 13; refine HL.out.mono ?_; rintro e w1 ⟨rfl, hw1⟩; have HW1 := hid hw1; clear hw1)
    | (go_at_call 12; refine (sub_yes w1 E Mo Po mT mR vF vR sub 1 (by exact lockE HE.out HW1.out) (by omega)).mono ?_; rintro e w2 ⟨rfl, rfl⟩; have HE2 := hid (at10 (vF := vF) (vR := vR) (lockE HE.out HW1.out) (name_at HE.out HW1.out) (lockRows HV.out.1 HE.out HW1.out)); obtain ⟨x7, xp, xl, hlk⟩ := HE2.out.1)
    | (go_at_call 15; refine (sorted_any _ vR rs w1.heap.size w.heap.size sub width name (by exact HE2.out.2.1) hl hw hsw HV.out.2 (by exact HE2.out.2.2.1) (by exact HE2.out.2.2.2.1) (by exact HE2.out.2.2.2.2.1) (by exact HE2.out.2.2.2.2.2)).mono ?_; rintro e w3 ⟨blk, cap, qs, rfl, hfin⟩; have HF := hid hfin; clear hfin))
  have hE1 := lockE HE.out HW1.out
  have hwz := (name_at HE.out HW1.out).1
  obtain ⟨f1, f2, f3, f4, f5, f6, f7, f8⟩ := HF.out
  have hb3 : Below w1.heap.size w1 w3 := ((Below.refl w1.heap.size w1).alloc (Nat.le_refl _) _).trans (f8.mono (by simp))
  have hE3 := hE1.keep hb3
  refine leaves_cons (f := 14) (args := #[.pointer (some ⟨E, 1, none⟩)]) (by simp) (by simp [go_sem]) ?_
  refine (runlock14 _ E Mo Po mT mR vF vR sub hE3).mono ?_
  rintro e u' w'' ⟨rfl, rfl, rfl⟩
  have hbw : Below w.heap.size w (w3.setCell ⟨E, 5, none⟩ (.int .i32 0)) := lock_below HE.out 1 0 rfl (by rw [← HW1.out]; exact hb3)
  obtain ⟨_, _, _, _, k5, _⟩ := hE3.cells
  have hEl := blk_lt hE1.e
  simp at f1
  exact ⟨_, results_tmp2 rfl _ _ _, blk, cap, qs, rfl, by omega, by simpa using f2, f3, fun i hi => ⟨by rw [World.cell?_setCell_other _ _ _ _ (fun e => by simp only [Addr.mk.injEq] at e; omega)]; exact (f4 i hi).1, (f4 i hi).2.setCell k5 (by simp)⟩, f5, f6, f7, hbw⟩
end Go.Proofs.Qxb6614485aFmt
