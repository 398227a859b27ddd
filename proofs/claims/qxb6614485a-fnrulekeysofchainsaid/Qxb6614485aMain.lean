/- The main function (3): a chain of n conjuncts. -/
import Derived.Test.Qxb6614485aChain
import Derived.Deep.RegionHeld3
namespace Go.Proofs.Qxb6614485a
open Go.RowKit
theorem PInv.cell0 {w wr : World} {g n : Nat} {cs : Nat → Int × Int × Int} {xf : Nat → Value} (h : PInv w wr g n n cs xf) (hn : 1 ≤ n) :
    wr.cell? ⟨g, 0, none⟩ = some (xf 0) ∧ wr.cell? ⟨g, 1, none⟩ = some (.string ⟨#[]⟩) ∧ wr.cell? ⟨g, 2, none⟩ = some (.int .u8 0) ∧ wr.cell? ⟨g, 3, none⟩ = some (.int .i64 0) := by
  obtain ⟨cur, h1, h2, h3⟩ := h.blk
  obtain ⟨q0, q1, q2, q3⟩ := h3 0 hn
  refine ⟨?_, ?_, ?_, ?_⟩ <;> rw [cell_of_row _ _ _ _ 30 (0, 0) h1]
  · simpa using q0
  · simpa using q1
  · simpa using q2
  · simpa using q3
theorem root_blk {wr w2 : World} {o : Array Value} (hb : Below (wr.alloc (.cells o 30)).heap.size (wr.alloc (.cells o 30)) w2) : w2.heap[wr.heap.size]? = some (.cells o 30 (0, 0)) := by
  rw [hb.block _ (by simp)]; exact heap_alloc_new _ _
theorem root_all {wr w2 w3 : World} {o p : Array Value} (hb : Below (wr.alloc (.cells o 30)).heap.size (wr.alloc (.cells o 30)) w2) (_ : w3.heap[wr.heap.size]? = some (.cells p 30 (0, 0))) (hg : w2.grownBy w3 (some wr.heap.size)) :
    (∀ j, j < wr.heap.size → w3.heap[j]? = wr.heap[j]?) ∧ wr.heap.size ≤ w3.heap.size ∧ Below wr.heap.size wr w3 := by
  have h1 := hb.size
  have h2 := hg.size
  simp at h1
  have hbl : Below wr.heap.size wr w3 := ((below1 wr _).trans (hb.mono (by simp))).grown hg (by omega) (fun k h => by cases h; exact Nat.le_refl _)
  exact ⟨hbl.block, by omega, hbl⟩
theorem kfour {w : World} {n : Nat} {a b c d : Value} (h : w.heap[n]? = some (.cells #[a, b, c, d] 35 (0, 0))) : w.cell? ⟨n, 0, none⟩ = some a ∧ w.cell? ⟨n, 1, none⟩ = some b ∧ w.cell? ⟨n, 2, none⟩ = some c ∧ w.cell? ⟨n, 3, none⟩ = some d := by
  obtain ⟨e0, e1, e2, e3, _⟩ := kcells h
  exact ⟨e0, e1, e2, e3⟩
theorem blk_keep {w w' : World} {n : Nat} {o : Obj} (h : w.heap[n]? = some o) (hb : Below w.heap.size w w') : w'.heap[n]? = some o := by rw [hb.block n (blk_lt h)]; exact h
theorem blk_keep' {w w' : World} {n : Nat} {o : Obj} (h : w.heap[n]? = some o) (hb : Below w.drew.heap.size w.drew w') : w'.heap[n]? = some o := by rw [hb.block n (blk_lt h)]; exact h
theorem hbl {w wr wa w5 w6 : World} (h1 : Below w.heap.size w wr) (h2 : Below wr.heap.size wr wa) (h3 : Below wa.heap.size wa w5) (hk : Kept w5 w6 (fun _ => False)) : Below w.heap.size w w6 := by
  have s1 := h1.size
  have s2 := h2.size
  have s3 := h3.size
  exact ((h1.trans (h2.mono s1)).trans (h3.mono (by omega))).trans (hk.below (by omega) (fun _ _ h => h))
theorem fin_below {w w6 w7 w8 : World} (h : Below w.heap.size w w6) (h7 : Below w6.drew.heap.size w6.drew w7) (h8 : Below w7.heap.size w7 w8) : Below w.heap.size w w8 := by
  have s1 := h.size
  have s2 : w6.heap.size ≤ w7.heap.size := h7.size
  have h7' : Below w6.heap.size w6 w7 := ⟨h7.os, h7.tape, h7.output, h7.size, h7.block⟩
  exact (h.trans (h7'.mono s1)).trans (h8.mono (by omega))
theorem args3 {w w' : World} {p q r : Addr} {x y z : Value} (hb : Below w.heap.size w w') (hp : p.block < w.heap.size) (hq : q.block < w.heap.size) (hr : r.block < w.heap.size) (h1 : w.cell? p = some x) (h2 : w.cell? q = some y) (h3 : w.cell? r = some z) :
    w'.cell? p = some x ∧ w'.cell? q = some y ∧ w'.cell? r = some z := ⟨(hb.cell hp).trans h1, (hb.cell hq).trans h2, (hb.cell hr).trans h3⟩
theorem st4_below {w w1 : World} {g o : Nat} {x : Value} (hb : Below w.heap.size w w1) (hg : w.heap.size ≤ g) : Below w.heap.size w (st4 w1 g o x) :=
  (((hb.setCell hg _).setCell hg _).setCell hg _).setCell hg _
theorem IsConj.form {w : World} {B : Nat} {t a b : Int} {x : Value} (h : IsConj w B t a b x) : ∃ t v, x = .iface t v := by
  rcases h with ⟨_, k, _, rfl, _⟩ | ⟨_, k, _, rfl, _⟩ | ⟨_, k, _, rfl, _⟩ | ⟨_, k, _, _, rfl, _⟩ | ⟨_, k, _, rfl, _⟩ <;> exact ⟨_, _, rfl⟩
set_option maxHeartbeats 4000000 in
set_option maxRecDepth 100000 in
theorem main_chain (w : World) (n tb ot ct ab ao ca bb bo cb : Nat) (cs : Nat → Int × Int × Int) (hn : n ≤ 4096) (hn1 : 1 ≤ n)
    (hT : ∀ i, i < n → w.cell? ⟨tb, ot + i, none⟩ = some (.int .u8 (cs i).1)) (hA : ∀ i, i < n → w.cell? ⟨ab, ao + i, none⟩ = some (.int .i64 (cs i).2.1)) (hB : ∀ i, i < n → w.cell? ⟨bb, bo + i, none⟩ = some (.int .i64 (cs i).2.2))
    (ht : tb < w.heap.size) (ha : ab < w.heap.size) (hb : bb < w.heap.size) (hr : ∀ i, i < n → 0 ≤ (cs i).1 ∧ (cs i).1 ≤ 255) :
    Calls Try.prog 3 #[.slice (some ⟨tb, ot, none⟩) n ct, .slice (some ⟨ab, ao, none⟩) n ca, .slice (some ⟨bb, bo, none⟩) n cb] w fun e w' => e = .returned (.bool true) ∧ Below w.heap.size w w' := by
  have HT := hid hT
  have HA := hid hA
  have HB := hid hB
  have HRG := hid hr
  clear hT hA hB hr
  obtain ⟨i30, hi30, hz300, hz301, hz302⟩ := info_parts Try.info30
  go_enter Try.func3, Try.ntmps3
  go_wp2_with (go_at_call 4; refine (bytes_yes _ _ _ _ _ _ _ _ _ _ hn hn hn).mono ?_; rintro e w' ⟨rfl, rfl⟩)
  go_loopw [8] (fun i wr => ∃ k : Nat, k ≤ n ∧ i = .int .i64 k ∧ (∀ j, j < k → (cs j).1 ≤ 4) ∧ w = wr) (fun i _ => n - (intOf i).toNat)
  case atStart => exact ⟨0, Nat.zero_le _, rfl, fun j hj => by omega, rfl⟩
  case round =>
    obtain ⟨k, hk, rfl, hle, rfl⟩ := hrel
    have HLE := hid hle
    clear hle
    by_cases hkn : k < n
    · have hct := HT.out k hkn
      obtain ⟨r0, r1⟩ := HRG.out k hkn
      by_cases h4 : 4 < (cs k).1
      · go_wp2_with fail
        go_ret
        exact ⟨rfl, Below.refl _ _⟩
      · go_wp2_with fail
        go_roundw
        case rel =>
          refine ⟨k + 1, by omega, by go_num, fun j hj => ?_, by trivial⟩
          by_cases hjk : j = k
          · subst hjk; omega
          · exact HLE.out j (by omega)
        case measure => simp [intOf]; omega
    · obtain rfl : n = k := by omega
      go_wp2_with (at_make; refine wpList_make_full _ rfl _ _ 25 rfl w.heap.size 30 i30 (.agg (opnd .nilIface)) 4 Try.underlying25 hi30 hz300 hz301 _ _ _ _ n rfl rfl (by rfl) (by rfl) (by rw [hz302]; omega) (by unfold maxLen; omega) (by omega) ?_; intro w1 hown hgrow)
      have HP0 := hid (parts_start (cs := cs) hown hgrow)
      clear hown hgrow
      go_loopw [10] (fun i wr => ∃ (q : Nat) (xf : Nat → Value), q ≤ n ∧ i = .int .i64 q ∧ PInv w wr w.heap.size n q cs xf) (fun i _ => n - (intOf i).toNat)
      case atStart => exact ⟨0, _, Nat.zero_le _, rfl, HP0.out⟩
      case round =>
        obtain ⟨q, xf, hq, rfl, hp⟩ := hrel
        have HP := hid hp
        have hzz := hp.lt
        clear hp HP0
        by_cases hqn : q < n
        · have ct := (HP.out.below.cell (p := ⟨tb, ot + q, none⟩) ht).trans (HT.out q hqn)
          have cA := (HP.out.below.cell (p := ⟨ab, ao + q, none⟩) ha).trans (HA.out q hqn)
          have cB := (HP.out.below.cell (p := ⟨bb, bo + q, none⟩) hb).trans (HB.out q hqn)
          have HX := hid (show 0 ≤ (cs q).1 ∧ (cs q).1 ≤ 4 from ⟨(HRG.out q hqn).1, HLE.out q hqn⟩)
          have ii1 : (0 : Int) ≤ (q : Int) := by omega
          have ii2 : (q : Int) < (n : Int) := by omega
          go_wp2_with fail
          go_region_held3 (fun w' => w'.cell? ⟨tb, ot + q, none⟩ = some (.int .u8 (cs q).1) ∧ w'.cell? ⟨ab, ao + q, none⟩ = some (.int .i64 (cs q).2.1) ∧ w'.cell? ⟨bb, bo + q, none⟩ = some (.int .i64 (cs q).2.2))
            (first
              | with_reducible exact K2
              | with_reducible exact K1
              | go_keep)
            (first
              | (go_at_call 5; refine (conj_any (cs q).1 (cs q).2.1 (cs q).2.2 wr.drew HX.out.1 HX.out.2).mono ?_; rintro e w2 ⟨x, rfl, hx2, hb2⟩; obtain ⟨tx, px, rfl⟩ := hx2.form; have HB1 : Hid (Below wr.heap.size wr w2) := ⟨hb2.os, hb2.tape, hb2.output, hb2.size, hb2.block⟩; have HX2 := hid hx2; have HB2 := hid (HP.out.below.trans (HB1.out.mono (by omega))); clear hb2 hx2; obtain ⟨u0, u1, u2, u3, y0, y1, y2, y3, z0, z1, z2, z3⟩ := HP.out.four HB1.out hqn; have K1 := args3 HB2.out ht ha hb (HT.out q hqn) (HA.out q hqn) (HB.out q hqn); have K2 := args3 (st4_below (o := q * 4) (x := .iface tx px) HB2.out (Nat.le_refl w.heap.size)) ht ha hb (HT.out q hqn) (HA.out q hqn) (HB.out q hqn)))
          go_wp2_with fail
          go_roundw
          case rel => exact ⟨q + 1, _, by omega, by go_num, HP.out.next HX2.out HB1.out hqn⟩
          case measure => simp [intOf]; omega
        · obtain rfl : n = q := by omega
          have HC0 := hid (HP.out.cell0 hn1)
          obtain ⟨c0, c1, c2, c3⟩ := HC0.out
          obtain ⟨tx, px, hx0⟩ := (HP.out.cj 0 hn1).form
          rw [hx0] at c0
          by_cases h1n : n = 1
          · subst h1n
            have HCH := hid (chain1 HP.out)
            rw [hx0] at HCH
            go_upto_region 24 with (first
              | (go_at_call 7; refine HCH.out.mono ?_; rintro e w5 ⟨vf, vv, vr, vz, cr, rfl, hp5⟩; have HP5 := hid hp5; clear hp5)
              | (refine wpList_store_blk rfl 35 (.tmp 12) (.tmp 98) rfl w5.heap.size #[vf, vv, vr, vz] rfl rfl 35 #[nils, nils, nils, nils] (heap_alloc_new _ _) Try.size35 rfl HP5.out.one ?_; intro w6 hw6 hg6; have HK := hid (kept_new hg6)))
            have HBL := hid (hbl HP.out.below (below1 wr _) HP5.out.below HK.out)
            have HQ := hid hw6
            clear hg6 hw6
            have HMD := hid (model_any w6.drew 1 tb ot ct ab ao ca bb bo cb cs ((List.range 1).map cs) (drop_map cs 1) (by simp) (by omega) (fun i hi => (HBL.out.cell (p := ⟨tb, ot + i, none⟩) ht).trans (HT.out i hi)) (fun i hi => (HBL.out.cell (p := ⟨ab, ao + i, none⟩) ha).trans (HA.out i hi)) (fun i hi => (HBL.out.cell (p := ⟨bb, bo + i, none⟩) hb).trans (HB.out i hi))
              (Nat.lt_of_lt_of_le ht HBL.out.size) (Nat.lt_of_lt_of_le ha HBL.out.size) (Nat.lt_of_lt_of_le hb HBL.out.size) (fun i hi => ⟨(HRG.out i hi).1, HLE.out i hi⟩))
            have hll : ((List.range 1).map cs).length ≤ 4096 := by simp
            have K6 := kfour HQ.out
            go_region_held3 (fun w' => w'.cell? ⟨w5.heap.size, 0, none⟩ = some vf ∧ w'.cell? ⟨w5.heap.size, 1, none⟩ = some vv ∧ w'.cell? ⟨w5.heap.size, 2, none⟩ = some vr ∧ w'.cell? ⟨w5.heap.size, 3, none⟩ = some vz)
              (first
                | with_reducible exact K8
                | with_reducible exact K7
                | exact K6
                | go_keep)
              (first
                | (go_at_call 8; refine (last_call hll HP5.out HK.out.drew HM7.out).mono ?_; rintro e w8 ⟨rfl, hb8⟩; have HB8 := hid hb8; have K8 := kfour (blk_keep HQ7.out hb8); clear hb8)
                | (go_at_call 9; refine HMD.out.mono ?_; rintro e w7 ⟨mf, mv, mr, md, rfl, hm7⟩; have HM7 := hid hm7; have HQ7 := hid (blk_keep' HQ.out hm7.below); have K7 := kfour HQ7.out; clear hm7))
            go_wp2_with fail
            go_ret
            exact ⟨rfl, fin_below HBL.out HM7.out.below HB8.out⟩
          · have h2n : 1 < n := by omega
            go_upto_region 24 with (first
              | (go_at_call 6; refine (all_any _ _).mono ?_; rintro e w2 ⟨rfl, hb2⟩; have HB2 := hid hb2; clear hb2)
              | (refine wpList_store_blk rfl 30 (.tmp 11) (.tmp 97) rfl wr.heap.size (opnd (.iface 43 (.slice (some ⟨w.heap.size, 0, none⟩) n n))) rfl rfl 30 (opnd (.iface tx px)) (root_blk HB2.out) Try.size30 rfl (opnd_one _ _) ?_; intro w3 hw3 hg3; have HR3 := hid (root_all HB2.out hw3 hg3); have HCH := hid (chainN HP.out hn hn1 hw3 HR3.out.1 HR3.out.2.1))
              | (go_at_call 7; refine HCH.out.mono ?_; rintro e w5 ⟨vf, vv, vr, vz, cr, rfl, hp5⟩; have HP5 := hid hp5; clear hp5)
              | (refine wpList_store_blk rfl 35 (.tmp 12) (.tmp 98) rfl w5.heap.size #[vf, vv, vr, vz] rfl rfl 35 #[nils, nils, nils, nils] (heap_alloc_new _ _) Try.size35 rfl HP5.out.one ?_; intro w6 hw6 hg6; have HK := hid (kept_new hg6)))
            have HBL := hid (hbl HP.out.below HR3.out.2.2 HP5.out.below HK.out)
            have HQ := hid hw6
            clear hg6 hw6
            have HMD := hid (model_any w6.drew n tb ot ct ab ao ca bb bo cb cs ((List.range n).map cs) (drop_map cs n) (by simp) (by omega) (fun i hi => (HBL.out.cell (p := ⟨tb, ot + i, none⟩) ht).trans (HT.out i hi)) (fun i hi => (HBL.out.cell (p := ⟨ab, ao + i, none⟩) ha).trans (HA.out i hi)) (fun i hi => (HBL.out.cell (p := ⟨bb, bo + i, none⟩) hb).trans (HB.out i hi))
              (Nat.lt_of_lt_of_le ht HBL.out.size) (Nat.lt_of_lt_of_le ha HBL.out.size) (Nat.lt_of_lt_of_le hb HBL.out.size) (fun i hi => ⟨(HRG.out i hi).1, HLE.out i hi⟩))
            have hll : ((List.range n).map cs).length ≤ 4096 := by simp; omega
            have K6 := kfour HQ.out
            go_region_held3 (fun w' => w'.cell? ⟨w5.heap.size, 0, none⟩ = some vf ∧ w'.cell? ⟨w5.heap.size, 1, none⟩ = some vv ∧ w'.cell? ⟨w5.heap.size, 2, none⟩ = some vr ∧ w'.cell? ⟨w5.heap.size, 3, none⟩ = some vz)
              (first
                | with_reducible exact K8
                | with_reducible exact K7
                | exact K6
                | go_keep)
              (first
                | (go_at_call 8; refine (last_call hll HP5.out HK.out.drew HM7.out).mono ?_; rintro e w8 ⟨rfl, hb8⟩; have HB8 := hid hb8; have K8 := kfour (blk_keep HQ7.out hb8); clear hb8)
                | (go_at_call 9; refine HMD.out.mono ?_; rintro e w7 ⟨mf, mv, mr, md, rfl, hm7⟩; have HM7 := hid hm7; have HQ7 := hid (blk_keep' HQ.out hm7.below); have K7 := kfour HQ7.out; clear hm7))
            go_wp2_with fail
            go_ret
            exact ⟨rfl, fin_below HBL.out HM7.out.below HB8.out⟩
end Go.Proofs.Qxb6614485a
