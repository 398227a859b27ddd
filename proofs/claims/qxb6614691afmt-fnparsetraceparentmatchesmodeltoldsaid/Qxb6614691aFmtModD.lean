/- The contract of zzModelTraceparent (5): the arrays. -/
import Derived.Test.Qxb6614691aFmtModC
import Derived.BigRegion
namespace Go.Proofs.Qxb6614691aFmt
open Go.RowKit
theorem owned_cell {w : World} {base T B N k : Nat} {xs : List Value} (h : w.ownsRow base T 1 (.slice (some ⟨B, 0, none⟩) N N) N xs) (hk : k < N) : ∃ x, w.cell? ⟨B, k, none⟩ = some x := by
  have hl : xs.length = N := by have := h.1; omega
  exact ⟨xs[k]'(by omega), by rw [h.cellAt k (by omega)]; simp⟩
theorem arr_step {wc wr : World} {T B N k : Nat} {xs : List Value} {f : Nat → Value} (ho : wr.ownsRow B T 1 (.slice (some ⟨B, 0, none⟩) N N) N xs) (hg : wc.grownBy wr (some B)) (hk : k < N)
    (hx : ∀ j, j < k → xs[j]? = some (f j)) :
    ((wr.setCell ⟨B, k, none⟩ (f k)).drew).ownsRow B T 1 (.slice (some ⟨B, 0, none⟩) N N) N (xs.set k (f k)) ∧ wc.grownBy ((wr.setCell ⟨B, k, none⟩ (f k)).drew) (some B) ∧ Hid (∀ j, j < k + 1 → (xs.set k (f k))[j]? = some (f j)) := by
  have hl : xs.length = N := by have := ho.1; omega
  have hst := ho.stored k (f k)
  refine ⟨hst.1.drew, ?_, ?_⟩
  · have := grown_trans hg hst.2
    exact ⟨this.os, this.tape, this.output, this.size, this.block⟩
  · intro j hj
    rw [List.getElem?_set]
    split
    · rename_i e
      subst e
      rw [if_pos (by omega)]
    · exact hx j (by omega)
theorem arr_all {xs ys : List Value} {f : Nat → Value} {n : Nat} (hl : xs.length = n) (hx : ∀ j, j < n → xs[j]? = some (f j)) (hl' : ys.length = n) (hy : ∀ j, j < n → ys[j]? = some (f j)) : xs = ys := by
  apply List.ext_getElem?
  intro j
  by_cases hj : j < n
  · rw [hx j hj, hy j hj]
  · rw [List.getElem?_eq_none (by omega), List.getElem?_eq_none (by omega)]
theorem wrapi (x : Int) (h0 : -9223372036854775808 ≤ x) (h1 : x ≤ 9223372036854775807) : IntKind.i64.wrap x = x := by
  simp only [IntKind.wrap, IntKind.bits, IntKind.signed]
  simp
  omega
theorem tr_lit (s : ByteArray) : ∃ p0 p1 p2 p3 p4 p5 p6 p7 p8 p9 p10 p11 p12 p13 p14 p15 : Int, trL s = [.int .u8 p0, .int .u8 p1, .int .u8 p2, .int .u8 p3, .int .u8 p4, .int .u8 p5, .int .u8 p6, .int .u8 p7, .int .u8 p8, .int .u8 p9, .int .u8 p10, .int .u8 p11, .int .u8 p12, .int .u8 p13, .int .u8 p14, .int .u8 p15] := ⟨_, _, _, _, _, _, _, _, _, _, _, _, _, _, _, _, rfl⟩
theorem sp_lit (s : ByteArray) : ∃ q0 q1 q2 q3 q4 q5 q6 q7 : Int, spL s = [.int .u8 q0, .int .u8 q1, .int .u8 q2, .int .u8 q3, .int .u8 q4, .int .u8 q5, .int .u8 q6, .int .u8 q7] := ⟨_, _, _, _, _, _, _, _, rfl⟩
set_option maxHeartbeats 4000000 in
set_option maxRecDepth 100000 in
theorem model_ok (s : ByteArray) (w : World) (h55 : 55 ≤ s.size) (hlen : s.size ≤ 200000) (hok : ∀ j, j < 55 → okAt s j) (hff : pair s 0 ≠ 255) (hz0 : pair s 0 = 0 → s.size = 55) (htl : 55 < s.size → byt s 55 = 45) (hnz : (∃ j, 3 ≤ j ∧ j < 35 ∧ byt s j ≠ 48) ∧ ∃ j, 36 ≤ j ∧ j < 52 ∧ byt s j ≠ 48) :
    Calls Tryf.prog 5 #[.string s] w fun e w' => e = .returned (.tuple #[.bool true, .agg (trL s).toArray, .agg (spL s).toArray, flV s]) ∧ Below w.heap.size w w' := by
  have HOK : Hid (∀ j, j < 55 → okAt s j) := hok
  have hb55 : ((s.size : Int) < 55) = False := by simp; omega
  clear hok
  have hq255 : (pair s 0 == 255) = false := by simpa using hff
  have hcase : ((pair s 0 == 0) = false ∧ ∃ h : 55 < s.size, (byt s 55 != 45) = false) ∨ ((pair s 0 == 0) = false ∧ s.size ≤ 55) ∨ ((pair s 0 == 0) = true ∧ ((s.size : Int) != 55) = false ∧ s.size ≤ 55) := by
    by_cases h : 55 < s.size
    · left
      have h0 : pair s 0 ≠ 0 := fun h0 => by have := hz0 h0; omega
      exact ⟨by simpa using h0, h, by simp [htl h]⟩
    · right
      by_cases h0 : pair s 0 = 0
      · right
        have := hz0 h0
        exact ⟨by simp [h0], by simp [this], by omega⟩
      · left; exact ⟨by simpa using h0, by omega⟩
  have HCASE : Hid (((pair s 0 == 0) = false ∧ ∃ h : 55 < s.size, (byt s 55 != 45) = false) ∨ ((pair s 0 == 0) = false ∧ s.size ≤ 55) ∨ ((pair s 0 == 0) = true ∧ ((s.size : Int) != 55) = false ∧ s.size ≤ 55)) := hcase
  clear hff hz0 htl hcase
  have HNZ : Hid ((∃ j, 3 ≤ j ∧ j < 35 ∧ byt s j ≠ 48) ∧ ∃ j, 36 ≤ j ∧ j < 52 ∧ byt s j ≠ 48) := hnz
  clear hnz
  go_enter Tryf.func5, Tryf.ntmps5
  go_wp2
  go_loop [8] (fun i => ∃ k : Nat, k ≤ 55 ∧ i = .int .i64 k) (fun i => 55 - (intOf i).toNat)
  case atStart => exact ⟨0, Nat.zero_le _, rfl⟩
  case round =>
    obtain ⟨k, hk, rfl⟩ := hrel
    by_cases hlt : k < 55
    · have hokk := HOK.out k hlt
      by_cases hs : k = 2 ∨ k = 35 ∨ k = 52
      · have hb45 : byt s k = 45 := hokk.1 hs
        have hq : ((s[k].toNat : Int) != 45) = false := by rw [byt_eq s k (by omega)]; simp [hb45]
        clear hokk hb45
        rcases hs with rfl | rfl | rfl
        all_goals
          go_wp2
          go_round
          case rel => exact ⟨_ + 1, hlt, by go_num⟩
          case measure => simp [intOf]
      · have hg : 0 ≤ hexv (s[k].toNat : Int) := by rw [byt_eq s k (by omega)]; exact hokk.2 hs
        obtain ⟨q2, q35, q52⟩ := okAt_split k hs
        clear hokk hs
        go_wp2_with (go_at_call 8; refine (digit_any _ _).mono ?_; rintro e w' ⟨rfl, rfl⟩)
        go_round
        case rel => exact ⟨k + 1, hlt, by go_num⟩
        case measure => simp [intOf]; omega
    · have hkm : k = 55 := by omega
      subst hkm
      go_wp2
      have hx0 := idx s 0 0 rfl (by omega)
      have hx1 := idx s 1 1 rfl (by omega)
      have hr0 := hexv_range (byt s 0)
      have hr1 := hexv_range (byt s 1)
      go_quiet ((go_at_call 8; exact Calls.quiet_of_same (digit_same _ _)))
      have hver : hexv (byt s 0) * 16 + hexv (byt s 1) = pair s 0 := rfl
      clear hx0 hx1 hr0 hr1
      have hcase := HCASE.out
      clear HCASE
      go_upto_region 16 with fail
      go_cut [67] (fun s67 wx => s67 = .bool false ∧ G w wx)
      case first =>
        rcases hcase with ⟨hz1, hl55, hq4⟩ | ⟨hz1, hl55⟩ | ⟨hz1, hz2, hl55⟩
        all_goals
          go_wp2_with fail
          go_meet
          exact ⟨rfl, G_world4 w _⟩
      case rest =>
      obtain ⟨rfl, HG⟩ := hcut
      go_upto_region 18 with fail
      go_cut [77] (fun s77 wx => s77 = .bool false ∧ G w wx)
      case first =>
        rcases hcase with ⟨hz1, hl55, hq4⟩ | ⟨hz1, hl55⟩ | ⟨hz1, hz2, hl55⟩
        · have hx55 := idx s 55 55 rfl hl55
          have hi55 : (55 : Int) < (s.size : Int) := by omega
          go_wp2_with fail
          go_meet
          exact ⟨rfl, HG⟩
        all_goals
          go_wp2_with fail
          go_meet
          exact ⟨rfl, HG⟩
      case rest =>
      obtain ⟨rfl, HG⟩ := hcut
      clear hcase
      go_wp2
      go_loop [10, 11] (fun b i => ∃ (k : Nat) (v : Bool), 3 ≤ k ∧ k ≤ 35 ∧ i = .int .i64 k ∧ b = .bool v ∧ Hid (v = true ↔ ∃ j, 3 ≤ j ∧ j < k ∧ byt s j ≠ 48)) (fun _ i => 35 - (intOf i).toNat)
      case atStart => exact ⟨3, false, by omega, by omega, rfl, rfl, by simp [Hid]; omega⟩
      case round =>
        obtain ⟨k, v1, hk3, hk, rfl, rfl, HV1⟩ := hrel
        by_cases hlt : k < 35
        · have hxk := idx s k k rfl (by omega)
          by_cases h48 : byt s k = 48
          · have hq48 : (byt s k != 48) = false := by simp [h48]
            have H48 : Hid (byt s k = 48) := h48
            clear h48
            go_wp2
            go_round
            case rel => exact ⟨k + 1, v1, by omega, by omega, by go_num, rfl, nz_keep HV1.out H48.out⟩
            case measure => simp [intOf]; omega
          · have hq48 : (byt s k != 48) = true := by simpa using h48
            have H48 : Hid (byt s k ≠ 48) := h48
            clear h48
            go_wp2
            go_round
            case rel => exact ⟨k + 1, true, by omega, by omega, by go_num, rfl, nz_hit hk3 H48.out⟩
            case measure => simp [intOf]; omega
        · have hk35 : k = 35 := by omega
          subst hk35
          clear hk3 hk hlt
          go_wp2
          go_loop [12, 13] (fun b i => ∃ (k : Nat) (v : Bool), 36 ≤ k ∧ k ≤ 52 ∧ i = .int .i64 k ∧ b = .bool v ∧ Hid (v = true ↔ ∃ j, 36 ≤ j ∧ j < k ∧ byt s j ≠ 48)) (fun _ i => 52 - (intOf i).toNat)
          case atStart => exact ⟨36, false, by omega, by omega, rfl, rfl, by simp [Hid]; omega⟩
          case round =>
            obtain ⟨k, v2, hk3, hk, rfl, rfl, HV2⟩ := hrel
            by_cases hlt : k < 52
            · have hxk := idx s k k rfl (by omega)
              by_cases h48 : byt s k = 48
              · have hq48 : (byt s k != 48) = false := by simp [h48]
                have H48 : Hid (byt s k = 48) := h48
                clear h48
                go_wp2
                go_round
                case rel => exact ⟨k + 1, v2, by omega, by omega, by go_num, rfl, nz_keep HV2.out H48.out⟩
                case measure => simp [intOf]; omega
              · have hq48 : (byt s k != 48) = true := by simpa using h48
                have H48 : Hid (byt s k ≠ 48) := h48
                clear h48
                go_wp2
                go_round
                case rel => exact ⟨k + 1, true, by omega, by omega, by go_num, rfl, nz_hit hk3 H48.out⟩
                case measure => simp [intOf]; omega
            · have hk52 : k = 52 := by omega
              subst hk52
              clear hk3 hk hlt
              obtain rfl : v1 = true := HV1.out.2 HNZ.out.1
              obtain rfl : v2 = true := HV2.out.2 HNZ.out.2
              clear HV1 HV2
              obtain ⟨g1, g2, g3, g4, g5⟩ := HG
              have G1 : Hid (wc.heap[w.heap.size]? = some (.cells zero16 23 (0, 0))) := g1
              have G2 : Hid (wc.heap[w.heap.size + 1]? = some (.cells zero8 25 (0, 0))) := g2
              have G3 : Hid (wc.heap[w.heap.size + 1 + 1]? = some (.cells zero16 23 (0, 0))) := g3
              have G4 : Hid (wc.heap[w.heap.size + 1 + 1 + 1]? = some (.cells zero8 25 (0, 0))) := g4
              clear g1 g2 g3 g4
              go_wp2
              go_loopw [14] (fun i wr => ∃ (k : Nat) (xs : List Value), k ≤ 16 ∧ i = .int .i64 k ∧ wr.ownsRow (w.heap.size + 1 + 1) 23 1 (.slice (some ⟨w.heap.size + 1 + 1, 0, none⟩) 16 16) 16 xs ∧
                  wc.grownBy wr (some (w.heap.size + 1 + 1)) ∧ Hid (∀ j, j < k → xs[j]? = some (.int .u8 (pair s (3 + 2 * j)))))
                (fun i _ => 16 - (intOf i).toNat)
              case atStart => exact ⟨0, zero16.toList, Nat.zero_le _, rfl, owns_of_block (xs := zero16.toList) G3.out rfl (by omega), grown_refl _ _, fun j hj => by omega⟩
              case round =>
                obtain ⟨k, xs, hk, hi, ho, hg, HX⟩ := hrel
                by_cases hlt : k < 16
                · subst hi
                  have hx0 := idx s (3 + 2 * k) (3 + 2 * (k : Int)) (by omega) (by omega)
                  have hx1 := idx s (4 + 2 * k) (4 + 2 * (k : Int)) (by omega) (by omega)
                  have hg0 : 0 ≤ hexv (byt s (3 + 2 * k)) := (HOK.out (3 + 2 * k) (by omega)).2 (by omega)
                  have hg1 : 0 ≤ hexv (byt s (4 + 2 * k)) := (HOK.out (4 + 2 * k) (by omega)).2 (by omega)
                  have hr0 := (hexv_range (byt s (3 + 2 * k))).2
                  have hr1 := (hexv_range (byt s (4 + 2 * k))).2
                  have hw1 : IntKind.i64.wrap (2 * (k : Int)) = 2 * (k : Int) := wrapi _ (by omega) (by omega)
                  have hw2 : IntKind.i64.wrap (3 + 2 * (k : Int)) = 3 + 2 * (k : Int) := wrapi _ (by omega) (by omega)
                  have hw3 : IntKind.i64.wrap (4 + 2 * (k : Int)) = 4 + 2 * (k : Int) := wrapi _ (by omega) (by omega)
                  have hw4 : IntKind.i64.wrap (hexv (byt s (3 + 2 * k)) * 16) = hexv (byt s (3 + 2 * k)) * 16 := wrapi _ (by omega) (by omega)
                  have hw5 : IntKind.i64.wrap (hexv (byt s (3 + 2 * k)) * 16 + hexv (byt s (4 + 2 * k))) = hexv (byt s (3 + 2 * k)) * 16 + hexv (byt s (4 + 2 * k)) := wrapi _ (by omega) (by omega)
                  have hxl : xs.length = 16 := by have := ho.1; omega
                  have hcd' : ∃ x, wr.cell? ⟨w.heap.size + 1 + 1, k, none⟩ = some x := ⟨xs[k]'(by omega), by rw [ho.cellAt k (by omega)]; simp⟩
                  obtain ⟨x, hx⟩ := hcd'
                  have hfr := ho.frozenAt k
                  have HO : Hid (wr.ownsRow (w.heap.size + 1 + 1) 23 1 (.slice (some ⟨w.heap.size + 1 + 1, 0, none⟩) 16 16) 16 xs) := ho
                  have HXL : Hid (xs.length = 16) := hxl
                  have hki : (k : Int) < 16 := by omega
                  clear ho hxl
                  go_wp2
                  go_region_with (go_at_call 8; refine (digit_any _ _).mono ?_; rintro e w' ⟨rfl, rfl⟩)
                  all_goals
                    go_wp2
                    go_roundw
                    case rel =>
                      have hp : hexv (byt s (3 + 2 * k)) * 16 + hexv (byt s (4 + 2 * k)) = pair s (3 + 2 * k) := by unfold pair; rw [show 3 + 2 * k + 1 = 4 + 2 * k by omega]
                      rw [hp]
                      obtain ⟨r1, r2, r3⟩ := arr_step (f := fun j => .int .u8 (pair s (3 + 2 * j))) HO.out hg hlt HX.out
                      exact ⟨k + 1, _, by omega, by go_num, r1, r2, r3⟩
                    case measure => simp [intOf]; omega
                · have hk16 : k = 16 := by omega
                  subst hk16
                  obtain rfl : _ = Value.int .i64 16 := hi
                  have hxs : xs = trL s := arr_all (by have := ho.1; omega) HX.out (by simp [trL]) (fun j hj => by simp [trL, hj])
                  subst hxs
                  have hs := hg.size
                  have K3 : Hid (wr.heap[w.heap.size + 1 + 1]? = some (.cells (trL s).toArray 23 (0, 0))) := owns_block ho
                  have hszc : w.heap.size + 1 + 1 + 1 + 1 ≤ wc.heap.size := by have := (Array.getElem?_eq_some_iff.1 G4.out).1; omega
                  have K1 : Hid (wr.heap[w.heap.size]? = some (.cells zero16 23 (0, 0))) := by unfold Hid; rw [hg.block _ (by omega) (by simp; omega)]; exact G1.out
                  have K2 : Hid (wr.heap[w.heap.size + 1]? = some (.cells zero8 25 (0, 0))) := by unfold Hid; rw [hg.block _ (by omega) (by simp)]; exact G2.out
                  have K4 : Hid (wr.heap[w.heap.size + 1 + 1 + 1]? = some (.cells zero8 25 (0, 0))) := by unfold Hid; rw [hg.block _ (by omega) (by simp)]; exact G4.out
                  have K5 : Below w.heap.size w wr := g5.grown hg (by omega) (fun q h => by cases h; omega)
                  clear ho hg HX G1 G2 G3 G4 g5 hk hlt
                  go_wp2
                  go_loopw [15] (fun i wq => ∃ (k : Nat) (xs : List Value), k ≤ 8 ∧ i = .int .i64 k ∧ wq.ownsRow (w.heap.size + 1 + 1 + 1) 25 1 (.slice (some ⟨w.heap.size + 1 + 1 + 1, 0, none⟩) 8 8) 8 xs ∧
                      wr.grownBy wq (some (w.heap.size + 1 + 1 + 1)) ∧ Hid (∀ j, j < k → xs[j]? = some (.int .u8 (pair s (36 + 2 * j)))))
                    (fun i _ => 8 - (intOf i).toNat)
                  case atStart => exact ⟨0, zero8.toList, Nat.zero_le _, rfl, owns_of_block (xs := zero8.toList) K4.out rfl (by omega), grown_refl _ _, fun j hj => by omega⟩
                  case round =>
                    obtain ⟨k, xs, hk, hi, ho, hg, HX⟩ := hrel
                    by_cases hlt : k < 8
                    · subst hi
                      have hx0 := idx s (36 + 2 * k) (36 + 2 * (k : Int)) (by omega) (by omega)
                      have hx1 := idx s (37 + 2 * k) (37 + 2 * (k : Int)) (by omega) (by omega)
                      have hg0 : 0 ≤ hexv (byt s (36 + 2 * k)) := (HOK.out (36 + 2 * k) (by omega)).2 (by omega)
                      have hg1 : 0 ≤ hexv (byt s (37 + 2 * k)) := (HOK.out (37 + 2 * k) (by omega)).2 (by omega)
                      have hr0 := (hexv_range (byt s (36 + 2 * k))).2
                      have hr1 := (hexv_range (byt s (37 + 2 * k))).2
                      have hw1 : IntKind.i64.wrap (2 * (k : Int)) = 2 * (k : Int) := wrapi _ (by omega) (by omega)
                      have hw2 : IntKind.i64.wrap (36 + 2 * (k : Int)) = 36 + 2 * (k : Int) := wrapi _ (by omega) (by omega)
                      have hw3 : IntKind.i64.wrap (37 + 2 * (k : Int)) = 37 + 2 * (k : Int) := wrapi _ (by omega) (by omega)
                      have hw4 : IntKind.i64.wrap (hexv (byt s (36 + 2 * k)) * 16) = hexv (byt s (36 + 2 * k)) * 16 := wrapi _ (by omega) (by omega)
                      have hw5 : IntKind.i64.wrap (hexv (byt s (36 + 2 * k)) * 16 + hexv (byt s (37 + 2 * k))) = hexv (byt s (36 + 2 * k)) * 16 + hexv (byt s (37 + 2 * k)) := wrapi _ (by omega) (by omega)
                      have hxl : xs.length = 8 := by have := ho.1; omega
                      have hcd' := owned_cell ho hlt
                      obtain ⟨x, hx⟩ := hcd'
                      have hfr := ho.frozenAt k
                      have HO : Hid (wr.ownsRow (w.heap.size + 1 + 1 + 1) 25 1 (.slice (some ⟨w.heap.size + 1 + 1 + 1, 0, none⟩) 8 8) 8 xs) := ho
                      have hki : (k : Int) < 8 := by omega
                      clear ho hxl
                      go_wp2
                      go_region_with (go_at_call 8; refine (digit_any _ _).mono ?_; rintro e w' ⟨rfl, rfl⟩)
                      all_goals
                        go_wp2
                        go_roundw
                        case rel =>
                          have hp : hexv (byt s (36 + 2 * k)) * 16 + hexv (byt s (37 + 2 * k)) = pair s (36 + 2 * k) := by unfold pair; rw [show 36 + 2 * k + 1 = 37 + 2 * k by omega]
                          rw [hp]
                          obtain ⟨r1, r2, r3⟩ := arr_step (f := fun j => .int .u8 (pair s (36 + 2 * j))) HO.out hg hlt HX.out
                          exact ⟨k + 1, _, by omega, by go_num, r1, r2, r3⟩
                        case measure => simp [intOf]; omega
                    · have hk8 : k = 8 := by omega
                      subst hk8
                      obtain rfl : _ = Value.int .i64 8 := hi
                      have hxs : xs = spL s := arr_all (by have := ho.1; omega) HX.out (by simp [spL]) (fun j hj => by simp [spL, hj])
                      subst hxs
                      have hs := hg.size
                      have hszr := (Array.getElem?_eq_some_iff.1 K4.out).1
                      have M4 : Hid (wr.heap[w.heap.size + 1 + 1 + 1]? = some (.cells (spL s).toArray 25 (0, 0))) := owns_block ho
                      have M1 : Hid (wr.heap[w.heap.size]? = some (.cells zero16 23 (0, 0))) := by unfold Hid; rw [hg.block _ (by omega) (by simp; omega)]; exact K1.out
                      have M2 : Hid (wr.heap[w.heap.size + 1]? = some (.cells zero8 25 (0, 0))) := by unfold Hid; rw [hg.block _ (by omega) (by simp)]; exact K2.out
                      have M3 : Hid (wr.heap[w.heap.size + 1 + 1]? = some (.cells (trL s).toArray 23 (0, 0))) := by unfold Hid; rw [hg.block _ (by omega) (by simp)]; exact K3.out
                      have M5 : Below w.heap.size w wr := K5.grown hg (by omega) (fun q h => by cases h; omega)
                      clear ho hg HX K1 K2 K3 K4 K5 hk hlt
                      go_wp2
                      have hx0 := idx s 53 53 rfl (by omega)
                      have hx1 := idx s 54 54 rfl (by omega)
                      have hg0 : 0 ≤ hexv (byt s 53) := (HOK.out 53 (by omega)).2 (by omega)
                      have hg1 : 0 ≤ hexv (byt s 54) := (HOK.out 54 (by omega)).2 (by omega)
                      have hr0 := (hexv_range (byt s 53)).2
                      have hr1 := (hexv_range (byt s 54)).2
                      have hw5 : IntKind.u8.wrap (hexv (byt s 53) * 16 + hexv (byt s 54)) = pair s 53 := by simp only [IntKind.wrap, IntKind.bits, IntKind.signed, pair]; simp; omega
                      go_quiet ((go_at_call 8; exact Calls.quiet_of_same (digit_same _ _)))
                      go_wp2_with fail
                      clear hx0 hx1 hr0 hr1
                      clear hg0 hg1 hw5 hs hszr HOK HNZ hb55 hq255
                      obtain ⟨p0, p1, p2, p3, p4, p5, p6, p7, p8, p9, p10, p11, p12, p13, p14, p15, htr⟩ := tr_lit s
                      obtain ⟨q0, q1, q2, q3, q4, q5, q6, q7, hsp⟩ := sp_lit s
                      rw [htr] at M3
                      rw [hsp] at M4
                      have HTR : Hid (trL s = [.int .u8 p0, .int .u8 p1, .int .u8 p2, .int .u8 p3, .int .u8 p4, .int .u8 p5, .int .u8 p6, .int .u8 p7, .int .u8 p8, .int .u8 p9, .int .u8 p10, .int .u8 p11, .int .u8 p12, .int .u8 p13, .int .u8 p14, .int .u8 p15]) := htr
                      have HSP : Hid (spL s = [.int .u8 q0, .int .u8 q1, .int .u8 q2, .int .u8 q3, .int .u8 q4, .int .u8 q5, .int .u8 q6, .int .u8 q7]) := hsp
                      clear htr hsp
                      obtain ⟨a0, a1, a2, a3, a4, a5, a6, a7, a8, a9, a10, a11, a12, a13, a14, a15⟩ := cells16 M3.out
                      obtain ⟨c0, c1, c2, c3, c4, c5, c6, c7⟩ := cells8 M4.out
                      obtain ⟨d0, d1, d2, d3, d4, d5, d6, d7, d8, d9, d10, d11, d12, d13, d14, d15⟩ := cells16 M1.out
                      obtain ⟨f0, f1, f2, f3, f4, f5, f6, f7⟩ := cells8 M2.out
                      have fz1 : ∀ j, wr.frozen? ⟨w.heap.size, j, none⟩ = false := fun j => frozen_of_row _ _ j _ _ M1.out
                      have fz2 : ∀ j, wr.frozen? ⟨w.heap.size + 1, j, none⟩ = false := fun j => frozen_of_row _ _ j _ _ M2.out
                      clear M3 M4
                      go_region
                      go_wp2
                      obtain ⟨e1, e2, e3⟩ := left_facts (W := wr.drewN (nq + 1)) (l1 := [.int .u8 p0, .int .u8 p1, .int .u8 p2, .int .u8 p3, .int .u8 p4, .int .u8 p5, .int .u8 p6, .int .u8 p7, .int .u8 p8, .int .u8 p9, .int .u8 p10, .int .u8 p11, .int .u8 p12, .int .u8 p13, .int .u8 p14, .int .u8 p15]) (l2 := [.int .u8 q0, .int .u8 q1, .int .u8 q2, .int .u8 q3, .int .u8 q4, .int .u8 q5, .int .u8 q6, .int .u8 q7]) M1.out M2.out (below_drewN M5 _) rfl rfl
                      exact bodyPost_ret (v := .tuple #[.bool true, .agg #[.int .u8 p0, .int .u8 p1, .int .u8 p2, .int .u8 p3, .int .u8 p4, .int .u8 p5, .int .u8 p6, .int .u8 p7, .int .u8 p8, .int .u8 p9, .int .u8 p10, .int .u8 p11, .int .u8 p12, .int .u8 p13, .int .u8 p14, .int .u8 p15], .agg #[.int .u8 q0, .int .u8 q1, .int .u8 q2, .int .u8 q3, .int .u8 q4, .int .u8 q5, .int .u8 q6, .int .u8 q7], flV s]) (results_model _ (leftWorld (wr.drewN (nq + 1)) w.heap.size [.int .u8 p0, .int .u8 p1, .int .u8 p2, .int .u8 p3, .int .u8 p4, .int .u8 p5, .int .u8 p6, .int .u8 p7, .int .u8 p8, .int .u8 p9, .int .u8 p10, .int .u8 p11, .int .u8 p12, .int .u8 p13, .int .u8 p14, .int .u8 p15] [.int .u8 q0, .int .u8 q1, .int .u8 q2, .int .u8 q3, .int .u8 q4, .int .u8 q5, .int .u8 q6, .int .u8 q7]) w.heap.size (w.heap.size + 1) #[.int .u8 p0, .int .u8 p1, .int .u8 p2, .int .u8 p3, .int .u8 p4, .int .u8 p5, .int .u8 p6, .int .u8 p7, .int .u8 p8, .int .u8 p9, .int .u8 p10, .int .u8 p11, .int .u8 p12, .int .u8 p13, .int .u8 p14, .int .u8 p15] #[.int .u8 q0, .int .u8 q1, .int .u8 q2, .int .u8 q3, .int .u8 q4, .int .u8 q5, .int .u8 q6, .int .u8 q7] _ _ rfl rfl rfl rfl e1 rfl e2 rfl) rfl ⟨by rw [HTR.out, HSP.out], e3⟩
end Go.Proofs.Qxb6614691aFmt
