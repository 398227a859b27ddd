/- sortedSetOf (22). -/
import Derived.Test.Qxb6614485aConj
import Derived.Test.Qxb6614485aOwn
import Derived.BigRegion
import Derived.OneCell
namespace Go.Proofs.Qxb6614485a
open Go.RowKit
theorem Try.info4 : (Try.prog.info? 4).map (fun i => (i.zero, i.size, i.bytes)) = some (some (.bool false), 1, 1) := by kernel_rfl
set_option maxHeartbeats 4000000 in
set_option maxRecDepth 100000 in
theorem set_none (w : World) (a' : Option Addr) (c' : Nat) (a : Option Addr) (c : Nat) : Calls Try.prog 22 #[.slice a' 0 c', .slice a 0 c] w fun e w' => e = .returned (.bool true) ∧ Below w.heap.size w w' := by
  obtain ⟨i4, hi4, hz40, hz41, hz42⟩ := info_parts Try.info4
  go_enter Try.func22, Try.ntmps22
  go_wp2_with fail
  refine wp_loop_rounds 1 ?_
  rw [rounds_succ]
  go_wp2_with (at_make; refine wpList_make_full _ rfl _ _ 79 rfl w.heap.size 4 i4 (.bool false) 1 Try.underlying79 hi4 hz40 hz41 _ _ _ _ 0 rfl rfl (by rfl) (by rfl) (by omega) (by omega) (by omega) ?_; intro w1 hown hgrow)
  refine wp_loop_rounds 1 ?_
  rw [rounds_succ]
  go_wp2_with fail
  refine wp_loop_rounds 1 ?_
  rw [rounds_succ]
  go_wp2_with fail
  go_ret
  exact ⟨rfl, (Below.refl _ _).grown hgrow (Nat.le_refl _) (fun k h => by cases h)⟩
/-- what the second loop knows -/
structure SetI (w wx : World) (g q : Nat) (z y : Nat → Int) (j : Nat) (H : List Bool) : Prop where
  own : wx.ownsRow w.heap.size 4 1 (.slice (some ⟨g, 0, none⟩) q q) q (H.map Value.bool)
  len : H.length = q
  hit : ∀ p, p < q → (∃ i, i < j ∧ y i = z p) → H[p]? = some true
  below : Below w.heap.size w wx
theorem SetI.mark {w wx : World} {g q : Nat} {z y : Nat → Int} {j h : Nat} {H : List Bool} (I : SetI w wx g q z y j H) (hh : h < q) (hz : z h = y j) (ha : ∀ i j, i < j → j < q → z i < z j) : SetI w (wx.setCell ⟨g, h, none⟩ (.bool true)) g q z y (j + 1) (H.set h true) := by
  have hl := I.len
  have hb := I.own.lt g rfl
  refine ⟨?_, by simpa using hl, ?_, I.below.setCell hb.1 _⟩
  · have := (I.own.stored h (.bool true)).1
    simpa [List.map_set] using this
  · rintro p hp ⟨i, hi, hip⟩
    by_cases hph : p = h
    · subst hph
      simp [hl, hh]
    · rw [List.getElem?_set_ne (by omega)]
      refine I.hit p hp ⟨i, ?_, hip⟩
      by_cases hij : i = j
      · exfalso
        subst hij
        have he : z p = z h := by omega
        rcases Nat.lt_or_gt_of_ne hph with hlt | hgt
        · have := ha p h hlt hh; omega
        · have := ha h p hgt hp; omega
      · omega
theorem set_start {w1 : World} {b g q : Nat} (h : w1.ownsRow b 4 1 (.slice (some ⟨g, 0, none⟩) q q) q (madeCells (Value.bool false).cells (q * 1)).toList) : w1.ownsRow b 4 1 (.slice (some ⟨g, 0, none⟩) q q) q ((List.replicate q false).map Value.bool) := by
  have e : (madeCells (Value.bool false).cells (q * 1)).toList = (List.replicate q false).map Value.bool := by
    rw [Nat.mul_one]
    simpa [Value.cells] using toList_madeCells_one (.bool false) q
  rwa [e] at h
set_option maxHeartbeats 4000000 in
set_option maxRecDepth 100000 in
theorem set_some (w : World) (g1 c1 g2 c2 m k : Nat) (z y : Nat → Int) (hz : ∀ i, i < m → w.cell? ⟨g1, i, none⟩ = some (.int .i64 (z i))) (hy : ∀ i, i < k → w.cell? ⟨g2, i, none⟩ = some (.int .i64 (y i)))
    (h1 : g1 < w.heap.size) (h2 : g2 < w.heap.size) (hm : m ≤ 100000) (hk : k ≤ 100000) (hm1 : 1 ≤ m) (hasc : ∀ i j, i < j → j < m → z i < z j) (hin : ∀ j, j < k → ∃ p, p < m ∧ z p = y j) (hon : ∀ p, p < m → ∃ j, j < k ∧ y j = z p) :
    Calls Try.prog 22 #[.slice (some ⟨g1, 0, none⟩) m c1, .slice (some ⟨g2, 0, none⟩) k c2] w fun e w' => e = .returned (.bool true) ∧ Below w.heap.size w w' := by
  have HZ : Hid (∀ i, i < m → w.cell? ⟨g1, i, none⟩ = some (.int .i64 (z i))) := hz
  have HY : Hid (∀ i, i < k → w.cell? ⟨g2, i, none⟩ = some (.int .i64 (y i))) := hy
  have HA : Hid (∀ i j, i < j → j < m → z i < z j) := hasc
  have HI : Hid (∀ j, j < k → ∃ p, p < m ∧ z p = y j) := hin
  have HO : Hid (∀ p, p < m → ∃ j, j < k ∧ y j = z p) := hon
  clear hz hy hasc hin hon
  obtain ⟨i4, hi4, hz40, hz41, hz42⟩ := info_parts Try.info4
  go_enter Try.func22, Try.ntmps22
  go_wp2_with fail
  go_loopw [5] (fun i wr => ∃ q : Nat, 1 ≤ q ∧ q ≤ m ∧ i = .int .i64 q ∧ Below w.heap.size w wr) (fun i _ => m - (intOf i).toNat)
  case atStart => exact ⟨1, Nat.le_refl _, hm1, rfl, Below.refl _ _⟩
  case round =>
    obtain ⟨q, hq1, hq, rfl, hb⟩ := hrel
    have HB := Hid.out hb
    by_cases hqm : q < m
    · obtain ⟨q', rfl⟩ : ∃ q', q = q' + 1 := ⟨q - 1, by omega⟩
      have c1 := (hb.cell (p := ⟨g1, q', none⟩) h1).trans (HZ.out q' (by omega))
      have c2 := (hb.cell (p := ⟨g1, q' + 1, none⟩) h1).trans (HZ.out (q' + 1) hqm)
      have c3 := HA.out q' (q' + 1) (by omega) hqm
      go_wp2_with fail
      go_region
      all_goals
        go_wp2_with fail
        go_roundw
        case rel => exact ⟨q' + 1 + 1, by omega, by omega, by go_num, hb.drew⟩
        case measure => simp [intOf]; omega
    · obtain rfl : q = m := by omega
      go_wp2_with (at_make; refine wpList_make_full _ rfl _ _ 79 rfl w.heap.size 4 i4 (.bool false) 1 Try.underlying79 hi4 hz40 hz41 _ _ _ _ q rfl rfl (by rfl) (by rfl) (by rw [hz42]; omega) (by unfold maxLen; omega) (by have := hb.size; omega) ?_; intro w1 hown hgrow)
      have HS := set_start hown
      have hb1 : Below w.heap.size w w1 := hb.grown hgrow hb.size (fun k h => by cases h)
      clear hown hgrow hb HB
      generalize wr.heap.size = gh at HS ⊢
      go_loopw [35] (fun i wx => ∃ (j : Nat) (H : List Bool), j ≤ k ∧ i = .int .i64 j ∧ SetI w wx gh q z y j H) (fun i _ => k - (intOf i).toNat)
      case atStart => exact ⟨0, _, Nat.zero_le _, rfl, HS, by simp, fun p _ ⟨j, hj, _⟩ => by omega, hb1⟩
      case round =>
        obtain ⟨j, H, hj, rfl, hI⟩ := hrel
        have HJ : Hid (SetI w wr gh q z y j H) := hI
        have hb := hI.below
        clear hI HS
        by_cases hjk : j < k
        · obtain ⟨p, hp, hpx⟩ := HI.out j hjk
          have hcy := (hb.cell (p := ⟨g2, j, none⟩) h2).trans (HY.out j hjk)
          have HC : Hid (∀ i, i < q → wr.cell? ⟨g1, i, none⟩ = some (.int .i64 (z i))) := fun i hi => (hb.cell (p := ⟨g1, i, none⟩) h1).trans (HZ.out i hi)
          go_wp2_with fail
          go_loopw [9, 10] (fun lo hi wx => ∃ l h : Nat, lo = .int .i64 l ∧ hi = .int .i64 h ∧ l ≤ p ∧ p ≤ h ∧ h ≤ q ∧ l ≤ h ∧ wx = wr) (fun lo hi _ => (intOf hi).toNat - (intOf lo).toNat)
          case atStart => exact ⟨0, q, rfl, rfl, by omega, by omega, by omega, by omega, rfl⟩
          case round =>
            obtain ⟨l, h, rfl, rfl, a1, a2, a3, a4, rfl⟩ := hrel
            by_cases hlh : l < h
            · have hcm := HC.out (l + (h - l) / 2) (by omega)
              rcases (show z (l + (h - l) / 2) < y j ∨ y j ≤ z (l + (h - l) / 2) from by omega) with hlt | hge
              · have hmp : l + (h - l) / 2 < p := by
                  by_cases hx : l + (h - l) / 2 < p
                  · exact hx
                  · exfalso
                    by_cases he : l + (h - l) / 2 = p
                    · rw [he, hpx] at hlt; omega
                    · have := HA.out p (l + (h - l) / 2) (by omega) (by omega); omega
                go_wp2_with fail
                go_roundw
                case rel => exact ⟨l + (h - l) / 2 + 1, h, by go_num, rfl, by omega, by omega, by omega, by omega, by trivial⟩
                case measure => simp only [intOf]; omega
              · have hmp : p ≤ l + (h - l) / 2 := by
                  by_cases hx : p ≤ l + (h - l) / 2
                  · exact hx
                  · exfalso
                    have := HA.out (l + (h - l) / 2) p (by omega) hp; omega
                go_wp2_with fail
                go_roundw
                case rel => exact ⟨l, l + (h - l) / 2, rfl, by go_num, by omega, by omega, by omega, by omega, by trivial⟩
                case measure => simp only [intOf]; omega
            · obtain rfl : l = p := by omega
              obtain rfl : h = l := by omega
              have hch := HC.out h hp
              rw [hpx] at hch
              have hcw : wr.cell? ⟨gh, h, none⟩ = some (.bool (H.getD h false)) := by
                rw [HJ.out.own.cellAt h (by omega)]
                have := HJ.out.len
                simp [List.getD, this, hp]
              have hfw := HJ.out.own.frozenAt h
              go_wp2_with fail
              go_roundw
              case rel => exact ⟨j + 1, H.set h true, by omega, by go_num, HJ.out.mark hp hpx HA.out⟩
              case measure => simp [intOf]; omega
        · obtain rfl : j = k := by omega
          have hall : ∀ t, t < q → wr.cell? ⟨gh, t, none⟩ = some (.bool true) := fun t ht => by
            obtain ⟨i, hi, hiy⟩ := HO.out t ht
            have := HJ.out.hit t ht ⟨i, hi, hiy⟩
            rw [HJ.out.own.cellAt t (by omega)]
            simp [this]
          have HALL : Hid (∀ t, t < q → wr.cell? ⟨gh, t, none⟩ = some (.bool true)) := hall
          clear hall
          go_wp2_with fail
          go_loopw [77] (fun i wx => ∃ t : Nat, t ≤ q ∧ i = .int .i64 t ∧ wx = wr) (fun i _ => q - (intOf i).toNat)
          case atStart => exact ⟨0, Nat.zero_le _, rfl, rfl⟩
          case round =>
            obtain ⟨t, ht, rfl, rfl⟩ := hrel
            by_cases htq : t < q
            · have hct := HALL.out t htq
              go_wp2_with fail
              go_roundw
              case rel => exact ⟨t + 1, by omega, by go_num, by trivial⟩
              case measure => simp [intOf]; omega
            · obtain rfl : t = q := by omega
              go_wp2_with fail
              go_ret
              exact ⟨rfl, hb⟩
end Go.Proofs.Qxb6614485a
