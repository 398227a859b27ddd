/- zzBytes (4), ZZAll (6), ZZRuleKeysOf (7). -/
import Derived.Test.Qxb6614485aPlain
import Derived.Test.Qxb6614485aMatch
import Derived.Test.Qxb6614485aModel
namespace Go.Proofs.Qxb6614485a
open Go.RowKit
set_option maxHeartbeats 2000000 in
theorem bytes_all (w : World) (a0 a1 a2 : Option Addr) (n0 c0 n1 c1 n2 c2 : Nat) (h0 : n0 ≤ maxLen) (h1 : n1 ≤ maxLen) (h2 : n2 ≤ maxLen) :
    Calls Try.prog 4 #[.slice a0 n0 c0, .slice a1 n1 c1, .slice a2 n2 c2] w fun e w' => (∃ b, e = .returned (.bool b)) ∧ w = w' := by
  have hm : maxLen = 9223372036854775807 := rfl
  by_cases g0 : 1048576 < n0
  · go_enter Try.func4, Try.ntmps4
    go_wp2
    all_goals (go_ret; exact ⟨⟨_, rfl⟩, rfl⟩)
  by_cases g1 : 1048576 < n1
  · go_enter Try.func4, Try.ntmps4
    go_wp2
    all_goals (go_ret; exact ⟨⟨_, rfl⟩, rfl⟩)
  by_cases g2 : 1048576 < n2
  · go_enter Try.func4, Try.ntmps4
    go_wp2
    all_goals (go_ret; exact ⟨⟨_, rfl⟩, rfl⟩)
  go_enter Try.func4, Try.ntmps4
  go_wp2
  all_goals (go_ret; exact ⟨⟨_, rfl⟩, rfl⟩)
set_option maxHeartbeats 1000000 in
theorem bytes_yes (w : World) (a0 a1 a2 : Option Addr) (n0 c0 n1 c1 n2 c2 : Nat) (h0 : n0 ≤ 4096) (h1 : n1 ≤ 4096) (h2 : n2 ≤ 4096) :
    Calls Try.prog 4 #[.slice a0 n0 c0, .slice a1 n1 c1, .slice a2 n2 c2] w fun e w' => e = .returned (.bool true) ∧ w = w' := by
  go_enter Try.func4, Try.ntmps4
  go_wp2
  go_ret
  exact ⟨rfl, rfl⟩
set_option maxHeartbeats 1000000 in
theorem all_any (w : World) (v : Value) : Calls Try.prog 6 #[v] w fun e w' => e = .returned (.agg (opnd (.iface 43 v))) ∧ Below w.heap.size w w' := by
  go_enter Try.func6, Try.ntmps6
  go_wp2
  exact bodyPost_ret (results_cell_row rfl _ _ w.heap.size 30 (opnd _) (0, 0) _ rfl (heap_alloc_new _ _) Try.underlying30 rfl Try.size30) rfl ⟨rfl, below1 _ _⟩
theorem RPost.store {w w1 w2 : World} {o : Obj} {vf vv vr vz : Value} {cr : List Value} {s : KS} {Z : List Int} (h : RPost (w.alloc o) w1 vf vv vr vz cr s Z) (hg : w1.grownBy w2 (some w.heap.size)) : RPost w w2 vf vv vr vz cr s Z := by
  have hk : Kept w1 w2 (· = w.heap.size) := Kept.ofGrown hg _ (fun j h => by simpa using h)
  have hS : ∀ j, j = w.heap.size → j < (w.alloc o).heap.size := fun j hj => by simp; omega
  have hz := h.below.size
  simp at hz
  refine ⟨owns_base (hk.owns h.of hS) (by simp), owns_base (hk.owns h.ov hS) (by simp), owns_base (hk.owns h.or hS) (by simp), h.rl, owns_base (hk.owns h.oz hS) (by simp), ?_⟩
  exact ((below1 w o).trans (h.below.mono (by simp))).trans (hk.below (by omega) (fun j hj => by omega))
theorem RPost.one {w w1 : World} {vf vv vr vz : Value} {cr : List Value} {s : KS} {Z : List Int} (h : RPost w w1 vf vv vr vz cr s Z) : #[vf, vv, vr, vz].all (·.oneCell') = true := by
  simp [owns_one h.of, owns_one h.ov, owns_one h.or, owns_one h.oz]
set_option maxHeartbeats 2000000 in
theorem keys_any (w : World) (rb n : Nat) (pb po : Nat → Nat) (cs : Nat → Int × Int × Int) (xf : Nat → Value) (l : List (Int × Int × Int)) (hl : ∀ k, k < n → l.drop k = cs k :: l.drop (k + 1)) (hll : l.length = n) (hn : n ≤ 4096) (h1 : 0 < n)
    (hcall : ∀ w1, Below w.heap.size w w1 → Calls Try.prog 24 #[.slice none 0 0, .pointer (some ⟨rb, 0, none⟩)] w1 fun e w' => ∃ v', e = .returned v' ∧ w'.ownsRow w1.heap.size 37 1 v' n (plist pb po n) ∧ Below w1.heap.size w1 w')
    (hcell : ∀ i, i < n → w.cell? ⟨pb i, po i, none⟩ = some (xf i) ∧ pb i < w.heap.size) (hcj : ∀ i, i < n → IsConj w w.heap.size (cs i).1 (cs i).2.1 (cs i).2.2 (xf i)) :
    Calls Try.prog 7 #[.pointer (some ⟨rb, 0, none⟩)] w fun e w' => ∃ vf vv vr vz cr, e = .returned (.agg #[vf, vv, vr, vz]) ∧ RPost w w' vf vv vr vz cr (runK KS.init l) (strs (runK KS.init l)) := by
  have HC := hid (rule_any (w.alloc (.cells #[nils, nils, nils, nils] 35)) rb n pb po cs xf l hl hll hn h1 (fun w1 hb => hcall w1 ((below1 w _).trans (hb.mono (by simp))))
    (fun i hi => ⟨(World.cell?_of_block (w := w) (Below.heap_alloc w _ _ (hcell i hi).2)).trans (hcell i hi).1, by have := (hcell i hi).2; simp; omega⟩)
    (fun i hi => (hcj i hi).keep (by simp) (fun j hj => Below.heap_alloc w _ _ hj)))
  clear hcall hcell hcj hl
  go_enter Try.func7, Try.ntmps7
  go_wp2_with (first
    | (go_at_call 15; refine HC.out.mono ?_; rintro e w1 ⟨vf, vv, vr, vz, cr, rfl, hp⟩; have HP := hid hp; clear hp)
    | (refine wpList_store_blk rfl 35 (.tmp 2) (.tmp 4) rfl w.heap.size #[vf, vv, vr, vz] rfl rfl 35 #[nils, nils, nils, nils] (by rw [HP.out.below.block _ (by simp)]; exact heap_alloc_new _ _) Try.size35 rfl HP.out.one ?_; intro w2 hw2 hg2))
  exact bodyPost_ret (results_cell_row rfl _ _ w.heap.size 35 #[vf, vv, vr, vz] (0, 0) _ rfl hw2 Try.underlying35 rfl Try.size35) rfl ⟨vf, vv, vr, vz, cr, rfl, HP.out.store hg2⟩
end Go.Proofs.Qxb6614485a
