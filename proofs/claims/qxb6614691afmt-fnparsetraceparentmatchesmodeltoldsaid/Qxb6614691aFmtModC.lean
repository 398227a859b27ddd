/- The contract of zzModelTraceparent (5): the zeros. -/
import Derived.Test.Qxb6614691aFmtModB
import Derived.Deep.DeepCutAuto
namespace Go.Proofs.Qxb6614691aFmt
open Go.RowKit
theorem nz_keep {s : ByteArray} {a k : Nat} {v : Bool} (h : v = true ↔ ∃ j, a ≤ j ∧ j < k ∧ byt s j ≠ 48) (h48 : byt s k = 48) : Hid (v = true ↔ ∃ j, a ≤ j ∧ j < k + 1 ∧ byt s j ≠ 48) := by
  unfold Hid
  rw [h]
  constructor
  · rintro ⟨j, h1, h2, h3⟩; exact ⟨j, h1, by omega, h3⟩
  · rintro ⟨j, h1, h2, h3⟩
    refine ⟨j, h1, ?_, h3⟩
    have : j ≠ k := fun e => h3 (by rw [e]; exact h48)
    omega
theorem nz_hit {s : ByteArray} {a k : Nat} (hk : a ≤ k) (h48 : byt s k ≠ 48) : Hid (true = true ↔ ∃ j, a ≤ j ∧ j < k + 1 ∧ byt s j ≠ 48) :=
  ⟨fun _ => ⟨k, hk, by omega, h48⟩, fun _ => rfl⟩
theorem cells16 {W : World} {g t : Nat} {x0 x1 x2 x3 x4 x5 x6 x7 x8 x9 x10 x11 x12 x13 x14 x15 : Value} (h : W.heap[g]? = some (.cells #[x0, x1, x2, x3, x4, x5, x6, x7, x8, x9, x10, x11, x12, x13, x14, x15] t (0, 0))) : W.cell? ⟨g, 0, none⟩ = some x0 ∧ W.cell? ⟨g, 1, none⟩ = some x1 ∧ W.cell? ⟨g, 2, none⟩ = some x2 ∧ W.cell? ⟨g, 3, none⟩ = some x3 ∧ W.cell? ⟨g, 4, none⟩ = some x4 ∧ W.cell? ⟨g, 5, none⟩ = some x5 ∧ W.cell? ⟨g, 6, none⟩ = some x6 ∧ W.cell? ⟨g, 7, none⟩ = some x7 ∧ W.cell? ⟨g, 8, none⟩ = some x8 ∧ W.cell? ⟨g, 9, none⟩ = some x9 ∧ W.cell? ⟨g, 10, none⟩ = some x10 ∧ W.cell? ⟨g, 11, none⟩ = some x11 ∧ W.cell? ⟨g, 12, none⟩ = some x12 ∧ W.cell? ⟨g, 13, none⟩ = some x13 ∧ W.cell? ⟨g, 14, none⟩ = some x14 ∧ W.cell? ⟨g, 15, none⟩ = some x15 := by
  have hc := fun j => cell_of_row W g j _ t (0, 0) h
  exact ⟨hc 0, hc 1, hc 2, hc 3, hc 4, hc 5, hc 6, hc 7, hc 8, hc 9, hc 10, hc 11, hc 12, hc 13, hc 14, hc 15⟩
theorem cells8 {W : World} {g t : Nat} {x0 x1 x2 x3 x4 x5 x6 x7 : Value} (h : W.heap[g]? = some (.cells #[x0, x1, x2, x3, x4, x5, x6, x7] t (0, 0))) : W.cell? ⟨g, 0, none⟩ = some x0 ∧ W.cell? ⟨g, 1, none⟩ = some x1 ∧ W.cell? ⟨g, 2, none⟩ = some x2 ∧ W.cell? ⟨g, 3, none⟩ = some x3 ∧ W.cell? ⟨g, 4, none⟩ = some x4 ∧ W.cell? ⟨g, 5, none⟩ = some x5 ∧ W.cell? ⟨g, 6, none⟩ = some x6 ∧ W.cell? ⟨g, 7, none⟩ = some x7 := by
  have hc := fun j => cell_of_row W g j _ t (0, 0) h
  exact ⟨hc 0, hc 1, hc 2, hc 3, hc 4, hc 5, hc 6, hc 7⟩
/-- the four blocks of zzModelTraceparent, before the arrays are filled -/
def G (w wx : World) : Prop := wx.heap[w.heap.size]? = some (.cells zero16 23 (0, 0)) ∧ wx.heap[w.heap.size + 1]? = some (.cells zero8 25 (0, 0)) ∧
  wx.heap[w.heap.size + 1 + 1]? = some (.cells zero16 23 (0, 0)) ∧ wx.heap[w.heap.size + 1 + 1 + 1]? = some (.cells zero8 25 (0, 0)) ∧ Below w.heap.size w wx
theorem G_world4 (w : World) (n : Nat) : G w ((world4 w).drewN n) := by
  obtain ⟨b1, b2, b3⟩ := world4_blk w
  refine ⟨b1, b2, ?_, ?_, below_drewN b3 _⟩
  · show (world4 w).heap[_]? = _
    unfold world4
    rw [Below.heap_alloc _ _ _ (by simp)]
    have h := heap_alloc_new ((w.alloc (.cells zero16 23)).alloc (.cells zero8 25)) (.cells zero16 23)
    simp only [World.size_alloc] at h
    exact h
  · show (world4 w).heap[_]? = _
    have h := heap_alloc_new (((w.alloc (.cells zero16 23)).alloc (.cells zero8 25)).alloc (.cells zero16 23)) (.cells zero8 25)
    simp only [World.size_alloc] at h
    exact h
set_option maxHeartbeats 4000000 in
set_option maxRecDepth 100000 in
theorem model_zeros (s : ByteArray) (w : World) (h55 : 55 ≤ s.size) (hlen : s.size ≤ 200000) (hok : ∀ j, j < 55 → okAt s j) (hff : pair s 0 ≠ 255) (hz0 : pair s 0 = 0 → s.size = 55) (htl : 55 < s.size → byt s 55 = 45) (hnz : ¬ ((∃ j, 3 ≤ j ∧ j < 35 ∧ byt s j ≠ 48) ∧ ∃ j, 36 ≤ j ∧ j < 52 ∧ byt s j ≠ 48)) :
    Calls Tryf.prog 5 #[.string s] w fun e w' => e = .returned (.tuple #[.bool false, .agg zero16, .agg zero8, .int .u8 0]) ∧ Below w.heap.size w w' := by
  have HOK : Hid (∀ j, j < 55 → okAt s j) := hok
  have hb55 : ((s.size : Int) < 55) = False := by simp; omega
  clear hok
  have hq255 : (pair s 0 == 255) = false := by simpa using hff
  have hcase : ((pair s 0 == 0) = false ∧ ∃ h : 55 < s.size, (byt s 55 != 45) = false) ∨ ((pair s 0 == 0) = false ∧ s.size ≤ 55) ∨ ((pair s 0 == 0) = true ∧ ((s.size : Int) != 55) = false ∧ s.size ≤ 55) := by
    by_cases h : 55 < s.size
    · left
      have h0 : pair s 0 ≠ 0 := fun h0 => by have := hz0 h0; omega
      exact ⟨by simpa using h0, h, by simp [htl h]⟩
    · right
      by_cases h0 : pair s 0 = 0
      · right
        have := hz0 h0
        exact ⟨by simp [h0], by simp [this], by omega⟩
      · left; exact ⟨by simpa using h0, by omega⟩
  have HCASE : Hid (((pair s 0 == 0) = false ∧ ∃ h : 55 < s.size, (byt s 55 != 45) = false) ∨ ((pair s 0 == 0) = false ∧ s.size ≤ 55) ∨ ((pair s 0 == 0) = true ∧ ((s.size : Int) != 55) = false ∧ s.size ≤ 55)) := hcase
  clear hff hz0 htl hcase
  have HNZ : Hid (¬ ((∃ j, 3 ≤ j ∧ j < 35 ∧ byt s j ≠ 48) ∧ ∃ j, 36 ≤ j ∧ j < 52 ∧ byt s j ≠ 48)) := hnz
  clear hnz
  go_enter Tryf.func5, Tryf.ntmps5
  go_wp2
  go_loop [8] (fun i => ∃ k : Nat, k ≤ 55 ∧ i = .int .i64 k) (fun i => 55 - (intOf i).toNat)
  case atStart => exact ⟨0, Nat.zero_le _, rfl⟩
  case round =>
    obtain ⟨k, hk, rfl⟩ := hrel
    by_cases hlt : k < 55
    · have hokk := HOK.out k hlt
      by_cases hs : k = 2 ∨ k = 35 ∨ k = 52
      · have hb45 : byt s k = 45 := hokk.1 hs
        have hq : ((s[k].toNat : Int) != 45) = false := by rw [byt_eq s k (by omega)]; simp [hb45]
        clear hokk hb45
        rcases hs with rfl | rfl | rfl
        all_goals
          go_wp2
          go_round
          case rel => exact ⟨_ + 1, hlt, by go_num⟩
          case measure => simp [intOf]
      · have hg : 0 ≤ hexv (s[k].toNat : Int) := by rw [byt_eq s k (by omega)]; exact hokk.2 hs
        obtain ⟨q2, q35, q52⟩ := okAt_split k hs
        clear hokk hs
        go_wp2_with (go_at_call 8; refine (digit_any _ _).mono ?_; rintro e w' ⟨rfl, rfl⟩)
        go_round
        case rel => exact ⟨k + 1, hlt, by go_num⟩
        case measure => simp [intOf]; omega
    · have hkm : k = 55 := by omega
      subst hkm
      go_wp2
      have hx0 := idx s 0 0 rfl (by omega)
      have hx1 := idx s 1 1 rfl (by omega)
      have hr0 := hexv_range (byt s 0)
      have hr1 := hexv_range (byt s 1)
      go_quiet ((go_at_call 8; exact Calls.quiet_of_same (digit_same _ _)))
      have hver : hexv (byt s 0) * 16 + hexv (byt s 1) = pair s 0 := rfl
      clear hx0 hx1 hr0 hr1
      have hcase := HCASE.out
      clear HCASE
      go_upto_region 16 with fail
      go_cut [67] (fun s67 wx => s67 = .bool false ∧ G w wx)
      case first =>
        rcases hcase with ⟨hz1, hl55, hq4⟩ | ⟨hz1, hl55⟩ | ⟨hz1, hz2, hl55⟩
        all_goals
          go_wp2_with fail
          go_meet
          exact ⟨rfl, G_world4 w _⟩
      case rest =>
      obtain ⟨rfl, HG⟩ := hcut
      go_upto_region 18 with fail
      go_cut [77] (fun s77 wx => s77 = .bool false ∧ G w wx)
      case first =>
        rcases hcase with ⟨hz1, hl55, hq4⟩ | ⟨hz1, hl55⟩ | ⟨hz1, hz2, hl55⟩
        · have hx55 := idx s 55 55 rfl hl55
          have hi55 : (55 : Int) < (s.size : Int) := by omega
          go_wp2_with fail
          go_meet
          exact ⟨rfl, HG⟩
        all_goals
          go_wp2_with fail
          go_meet
          exact ⟨rfl, HG⟩
      case rest =>
      obtain ⟨rfl, HG⟩ := hcut
      clear hcase
      go_wp2
      go_loop [10, 11] (fun b i => ∃ (k : Nat) (v : Bool), 3 ≤ k ∧ k ≤ 35 ∧ i = .int .i64 k ∧ b = .bool v ∧ Hid (v = true ↔ ∃ j, 3 ≤ j ∧ j < k ∧ byt s j ≠ 48)) (fun _ i => 35 - (intOf i).toNat)
      case atStart => exact ⟨3, false, by omega, by omega, rfl, rfl, by simp [Hid]; omega⟩
      case round =>
        obtain ⟨k, v1, hk3, hk, rfl, rfl, HV1⟩ := hrel
        by_cases hlt : k < 35
        · have hxk := idx s k k rfl (by omega)
          by_cases h48 : byt s k = 48
          · have hq48 : (byt s k != 48) = false := by simp [h48]
            have H48 : Hid (byt s k = 48) := h48
            clear h48
            go_wp2
            go_round
            case rel => exact ⟨k + 1, v1, by omega, by omega, by go_num, rfl, nz_keep HV1.out H48.out⟩
            case measure => simp [intOf]; omega
          · have hq48 : (byt s k != 48) = true := by simpa using h48
            have H48 : Hid (byt s k ≠ 48) := h48
            clear h48
            go_wp2
            go_round
            case rel => exact ⟨k + 1, true, by omega, by omega, by go_num, rfl, nz_hit hk3 H48.out⟩
            case measure => simp [intOf]; omega
        · have hk35 : k = 35 := by omega
          subst hk35
          clear hk3 hk hlt
          go_wp2
          go_loop [12, 13] (fun b i => ∃ (k : Nat) (v : Bool), 36 ≤ k ∧ k ≤ 52 ∧ i = .int .i64 k ∧ b = .bool v ∧ Hid (v = true ↔ ∃ j, 36 ≤ j ∧ j < k ∧ byt s j ≠ 48)) (fun _ i => 52 - (intOf i).toNat)
          case atStart => exact ⟨36, false, by omega, by omega, rfl, rfl, by simp [Hid]; omega⟩
          case round =>
            obtain ⟨k, v2, hk3, hk, rfl, rfl, HV2⟩ := hrel
            by_cases hlt : k < 52
            · have hxk := idx s k k rfl (by omega)
              by_cases h48 : byt s k = 48
              · have hq48 : (byt s k != 48) = false := by simp [h48]
                have H48 : Hid (byt s k = 48) := h48
                clear h48
                go_wp2
                go_round
                case rel => exact ⟨k + 1, v2, by omega, by omega, by go_num, rfl, nz_keep HV2.out H48.out⟩
                case measure => simp [intOf]; omega
              · have hq48 : (byt s k != 48) = true := by simpa using h48
                have H48 : Hid (byt s k ≠ 48) := h48
                clear h48
                go_wp2
                go_round
                case rel => exact ⟨k + 1, true, by omega, by omega, by go_num, rfl, nz_hit hk3 H48.out⟩
                case measure => simp [intOf]; omega
            · have hk52 : k = 52 := by omega
              subst hk52
              clear hk3 hk hlt
              have hvv : v1 = false ∨ (v1 = true ∧ v2 = false) := by
                rcases hv1 : v1 with _ | _
                · left; rfl
                · right
                  refine ⟨rfl, ?_⟩
                  rcases hv2 : v2 with _ | _
                  · rfl
                  · exact absurd ⟨HV1.out.1 hv1, HV2.out.1 hv2⟩ HNZ.out
              obtain ⟨g1, g2, g3, g4, g5⟩ := HG
              obtain ⟨a0, a1, a2, a3, a4, a5, a6, a7, a8, a9, a10, a11, a12, a13, a14, a15⟩ := cells16 g3
              obtain ⟨c0, c1, c2, c3, c4, c5, c6, c7⟩ := cells8 g4
              obtain ⟨d0, d1, d2, d3, d4, d5, d6, d7, d8, d9, d10, d11, d12, d13, d14, d15⟩ := cells16 g1
              obtain ⟨f0, f1, f2, f3, f4, f5, f6, f7⟩ := cells8 g2
              have fz1 : ∀ j, wc.frozen? ⟨w.heap.size, j, none⟩ = false := fun j => frozen_of_row _ _ j _ _ g1
              have fz2 : ∀ j, wc.frozen? ⟨w.heap.size + 1, j, none⟩ = false := fun j => frozen_of_row _ _ j _ _ g2
              have G1 : Hid (wc.heap[w.heap.size]? = some (.cells zero16 23 (0, 0))) := g1
              have G2 : Hid (wc.heap[w.heap.size + 1]? = some (.cells zero8 25 (0, 0))) := g2
              clear g1 g2 g3 g4 HV1 HV2
              rcases hvv with rfl | ⟨rfl, rfl⟩
              all_goals
                go_wp2
                go_region
                go_wp2
                obtain ⟨e1, e2, e3⟩ := left_facts (W := wc) (l1 := [.int .u8 0, .int .u8 0, .int .u8 0, .int .u8 0, .int .u8 0, .int .u8 0, .int .u8 0, .int .u8 0, .int .u8 0, .int .u8 0, .int .u8 0, .int .u8 0, .int .u8 0, .int .u8 0, .int .u8 0, .int .u8 0]) (l2 := [.int .u8 0, .int .u8 0, .int .u8 0, .int .u8 0, .int .u8 0, .int .u8 0, .int .u8 0, .int .u8 0]) G1.out G2.out g5 rfl rfl
                exact bodyPost_ret (v := .tuple #[.bool false, .agg zero16, .agg zero8, .int .u8 0]) (results_model _ (leftWorld wc w.heap.size [.int .u8 0, .int .u8 0, .int .u8 0, .int .u8 0, .int .u8 0, .int .u8 0, .int .u8 0, .int .u8 0, .int .u8 0, .int .u8 0, .int .u8 0, .int .u8 0, .int .u8 0, .int .u8 0, .int .u8 0, .int .u8 0] [.int .u8 0, .int .u8 0, .int .u8 0, .int .u8 0, .int .u8 0, .int .u8 0, .int .u8 0, .int .u8 0]).drew w.heap.size (w.heap.size + 1) zero16 zero8 _ _ rfl rfl rfl rfl (by rw [heap_drew]; exact e1) rfl (by rw [heap_drew]; exact e2) rfl) rfl ⟨rfl, e3.drew⟩
end Go.Proofs.Qxb6614691aFmt
