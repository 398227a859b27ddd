/- The main function (3). -/
import Derived.Test.Qxb6614485aFmtCall
import Derived.Test.Qxb6614485aFmtZz
import Derived.Test.Qxb6614485aFmtUser
import Derived.Deep.Cut
import Derived.Stop.IfaceNil
namespace Go.Proofs.Qxb6614485aFmt
open Go.RowKit
attribute [local go_sem] eqn22 eqs22 eqn23 eqs23
theorem bt {w w1 w2 : World} (h : Below w.heap.size w w1) (h2 : Below w1.heap.size w1 w2) : Below w.heap.size w w2 := h.trans (h2.mono h.size)
set_option maxHeartbeats 8000000 in
set_option maxRecDepth 100000 in
theorem main_all (vF vR : Value) (ss : List ByteArray) (rs : List (List ByteArray)) (name : ByteArray) (w : World) (hF : RowAt w vF ss) (hR : RowsAt w vR rs) :
    Calls Tryf.prog 3 #[vF, vR, .string name] w fun e w' => e = .returned (.bool true) ∧ Below w.heap.size w w' := by
  have HZ := hid (zz_any vF vR ss rs name w hF hR)
  have HF0 := hid hF
  have HR0 := hid hR
  obtain ⟨a, c, rfl, hF⟩ := hF
  obtain ⟨a2, c2, rfl, hR⟩ := hR
  have HF := hid hF
  have HR := hid hR
  clear hF hR
  go_enter Tryf.func3, Tryf.ntmps3
  go_upto_if 27 with (go_at_call 4; refine HZ.out.mono ?_; rintro e w' ⟨⟨b, rfl, hbb⟩, rfl⟩; have HBB := hid hbb; clear hbb)
  clear HZ
  cases b
  case false =>
    go_wp2_with fail
    go_ret
    exact ⟨rfl, Below.refl _ _⟩
  have HSB := hid (HBB.out rfl).1
  have HRB := hid (HBB.out rfl).2
  clear HBB
  by_cases h1 : ss.length ≤ 4096
  case neg =>
    go_wp2_with fail
    go_ret
    exact ⟨rfl, Below.refl _ _⟩
  by_cases h2 : rs.length ≤ 4096
  case neg =>
    go_wp2_with fail
    go_ret
    exact ⟨rfl, Below.refl _ _⟩
  by_cases h3 : name.size ≤ 4096
  case neg =>
    go_wp2_with fail
    go_ret
    exact ⟨rfl, Below.refl _ _⟩
  have h4 : name.size + 16 * ss.length + 24 * rs.length ≤ 1048576 := by omega
  have HJ := hid (join_le ss h1 HSB.out)
  go_wp2_with fail
  go_loopw [7, 55] (fun s i wr => ∃ z k : Nat, z ≤ 1048576 ∧ k ≤ ss.length ∧ s = .int .i64 z ∧ i = .int .i64 k ∧ w = wr) (fun _ i _ => ss.length - (intOf i).toNat)
  case atStart => exact ⟨name.size + 16 * ss.length + 24 * rs.length, 0, h4, Nat.zero_le _, by go_num, rfl, rfl⟩
  case round =>
    obtain ⟨z, k, hz, hk, rfl, rfl, rfl⟩ := hrel
    by_cases hkn : k < ss.length
    · rcases HF.out with h | ⟨g, o, rfl, hg, hc⟩
      · omega
      have c1 := hc k hkn
      have h0 := HSB.out k hkn
      clear hc
      generalize el ss k = x at c1 h0
      by_cases h5 : z + x.size ≤ 1048576
      case neg =>
        go_wp2_with fail
        go_ret
        exact ⟨rfl, Below.refl _ _⟩
      go_wp2_with fail
      go_roundw
      case rel => exact ⟨z + x.size, k + 1, h5, by omega, by go_num, by go_num, by trivial⟩
      case measure => simp [intOf]; omega
    · clear HSB
      go_wp2_with fail
      go_loopw [7, 68] (fun s i wr => ∃ y j : Nat, y ≤ 1048576 ∧ j ≤ rs.length ∧ s = .int .i64 y ∧ i = .int .i64 j ∧ w = wr) (fun _ i _ => rs.length - (intOf i).toNat)
      case atStart => exact ⟨z, 0, hz, Nat.zero_le _, rfl, rfl, rfl⟩
      case round =>
        obtain ⟨y, j, hy, hj, rfl, rfl, rfl⟩ := hrel
        by_cases hjn : j < rs.length
        · rcases HR.out with h | ⟨g, o, vf, rfl, hg, hc⟩
          · omega
          have c1 := (hc j hjn).1
          have HV := hid (hc j hjn).2
          obtain ⟨h7, hsb⟩ := HRB.out j hjn
          have HS := hid hsb
          clear hc hsb
          generalize vf j = v at c1 HV
          generalize rowAt rs j = row at HV HS h7
          obtain ⟨a3, c3, rfl, hV⟩ := HV.out
          have HW := hid hV
          clear hV HV
          by_cases h8 : y + 16 * row.length ≤ 1048576
          case neg =>
            go_wp2_with fail
            go_ret
            exact ⟨rfl, Below.refl _ _⟩
          go_wp2_with fail
          go_loopw [7, 81] (fun s i wr => ∃ u t : Nat, u ≤ 1048576 ∧ t ≤ row.length ∧ s = .int .i64 u ∧ i = .int .i64 t ∧ w = wr) (fun _ i _ => row.length - (intOf i).toNat)
          case atStart => exact ⟨y + 16 * row.length, 0, h8, Nat.zero_le _, by go_num, rfl, rfl⟩
          case round =>
            obtain ⟨u, t, hu, ht, rfl, rfl, rfl⟩ := hrel
            by_cases htn : t < row.length
            · rcases HW.out with h | ⟨g4, o4, rfl, hg4, hc4⟩
              · omega
              have c4 := hc4 t htn
              have h9 := HS.out t htn
              clear hc4
              generalize el row t = x at c4 h9
              by_cases h10 : u + x.size ≤ 1048576
              case neg =>
                go_wp2_with fail
                go_ret
                exact ⟨rfl, Below.refl _ _⟩
              go_wp2_with fail
              go_roundw
              case rel => exact ⟨u + x.size, t + 1, h10, by omega, by go_num, by go_num, by trivial⟩
              case measure => simp [intOf]; omega
            · go_wp2_with fail
              go_roundw
              case rel => exact ⟨u, j + 1, hu, by omega, by go_num, by go_num, by trivial⟩
              case measure => simp [intOf]; omega
        · clear HRB
          go_wp2_with fail
          go_loopw [95] (fun i wr => ∃ j : Nat, j ≤ rs.length ∧ i = .int .i64 j ∧ (∀ i, i < j → (rowAt rs i).length = ss.length) ∧ w = wr) (fun i _ => rs.length - (intOf i).toNat)
          case atStart => exact ⟨0, Nat.zero_le _, rfl, fun i hi => by omega, rfl⟩
          case round =>
            obtain ⟨q, hq, rfl, hwd, rfl⟩ := hrel
            have HWD := hid hwd
            clear hwd
            by_cases hqn : q < rs.length
            · rcases HR.out with h | ⟨g, o, vf, rfl, hg, hc⟩
              · omega
              have c1 := (hc q hqn).1
              have HV := hid (hc q hqn).2
              have HN : Hid ((rowAt rs q).length = ss.length → ∀ i, i < q + 1 → (rowAt rs i).length = ss.length) := hid (fun h => upto HWD.out h)
              clear hc
              generalize vf q = v at c1 HV
              generalize rowAt rs q = row at HV HN
              obtain ⟨a3, c3, rfl, hV⟩ := HV.out
              clear hV HV
              by_cases h11 : row.length = ss.length
              case neg =>
                go_wp2_with fail
                go_ret
                exact ⟨rfl, Below.refl _ _⟩
              go_wp2_with fail
              go_roundw
              case rel => exact ⟨q + 1, by omega, by go_num, HN.out h11, by trivial⟩
              case measure => simp [intOf]; omega
            · have HWA : Hid (∀ i, i < rs.length → (rowAt rs i).length = ss.length) := hid (fun i hi => HWD.out i (by omega))
              clear HWD HF HR
              go_upto_region 38 with (first
                | (go_at_call 5; refine (clone_c _ ss w HF0.out (by omega)).mono ?_; rintro e w1 ⟨a1, c1, rfl, hr1, _, hb1⟩; have HR1 := hid hr1; have HB1 := hid hb1; clear hr1 hb1)
                | (go_at_call 6; refine (rows_any _ rs w1 (by exact HR0.out.keep HB1.out) (by omega) (by exact fun i hi => by have := HWA.out i hi; omega)).mono ?_; rintro e w2 ⟨b1, d1, rfl, hr2, hb2⟩; have HR2 := hid hr2; have HB2 := hid (bt HB1.out hb2); have HF2 := hid (HR1.out.keep hb2); clear hr2 hb2)
                | (go_at_call 7; refine (first_any _ ss _ w2 (by exact HF2.out) (by omega)).mono ?_; rintro e w3 ⟨r, rfl, hr, rfl⟩))
              clear HF0 HR0 HR1 HB1
              rcases hr with rfl | ⟨r0, r1⟩
              · go_wp2_with (first
                  | (go_at_call 7; refine (first_any _ ss _ w2 (by exact HF2.out) (by omega)).mono ?_; rintro e w3 ⟨r2, rfl, hr2, rfl⟩; clear hr2)
                  | (go_at_call 5; refine (clone_c _ ss w2 (by exact HF2.out) (by omega)).mono ?_; rintro e w3 ⟨a3, c3, rfl, hr3, hl3, hb3⟩; have HR3 := hid (And.intro hr3 hl3); have HB3 := hid hb3; clear hr3 hl3 hb3)
                  | (go_at_call 6; refine (rows_any _ rs w3 (by exact HR2.out.keep HB3.out) (by omega) (by exact fun i hi => by have := HWA.out i hi; omega)).mono ?_; rintro e w4 ⟨b4, d4, rfl, hr4, hb4⟩; have HB4 := hid hb4; clear hr4 hb4)
                  | (go_at_call 8; refine (new_any _ _ _ _ w4).mono ?_; rintro e w5 ⟨E, Mo, Po, mT, mR, rfl, he5, _, hb5⟩; have HE5 := hid he5; have HB5 := hid (bt HB4.out hb5); have HV5 := hid (show RowC w5 (.slice a3 ss.length c3) ss from ⟨HR3.out.1.keep HB5.out, _, _, rfl, HR3.out.2⟩); clear he5 hb5)
                  | (go_at_call 9; refine (zsub_no w5 E Mo Po mT mR _ _ (-1) 0 ss (by exact HE5.out) (by omega) (by exact HV5.out) (by omega) (by exact HJ.out)).mono ?_; rintro e w6 ⟨ea, rfl, hb6⟩; have HB6 := hid hb6; have HE6 := hid (HE5.out.keep hb6); have HV6 := hid (HV5.out.keep hb6); clear hb6)
                  | (go_at_call 10; refine (user_no w6 E Mo Po mT mR _ _ (-1) ss name (by exact HE6.out) (by omega) (by exact HV6.out) (by omega) (by exact HJ.out)).mono ?_; rintro e w7 ⟨ea7, rfl, hb7⟩; have HB7 := hid (bt (bt (bt (bt HB2.out HB3.out) HB5.out) HB6.out) hb7); clear hb7))
                go_ret
                exact ⟨rfl, HB7.out⟩
              · obtain ⟨sub, rfl⟩ : ∃ sub : Nat, r = sub := ⟨r.toNat, by omega⟩
                have hsw : sub < ss.length := by omega
                go_wp2_with (first
                  | (go_at_call 7; refine (first_any _ ss _ w2 (by exact HF2.out) (by omega)).mono ?_; rintro e w3 ⟨r2, rfl, hr2, rfl⟩; clear hr2)
                  | (go_at_call 5; refine (clone_c _ ss w2 (by exact HF2.out) (by omega)).mono ?_; rintro e w3 ⟨a3, c3, rfl, _, _, hb3⟩; have HB3 := hid hb3; clear hb3)
                  | (go_at_call 6; refine (rows_any _ rs w3 (by exact HR2.out.keep HB3.out) (by omega) (by exact fun i hi => by have := HWA.out i hi; omega)).mono ?_; rintro e w4 ⟨b4, d4, rfl, hr4, hb4⟩; have HR4 := hid hr4; have HB4 := hid (bt HB3.out hb4); clear hr4 hb4)
                  | (go_at_call 8; refine (new_any _ _ _ _ w4).mono ?_; rintro e w5 ⟨E, Mo, Po, mT, mR, rfl, he5, _, hb5⟩; have HE5 := hid he5; have HB5 := hid (bt HB4.out hb5); have HR5 := hid (HR4.out.keep hb5); clear he5 hb5)
                  | (go_at_call 9; refine (zsub_yes w5 E Mo Po mT mR _ _ sub 0 (by exact HE5.out) (by omega)).mono ?_; rintro e w6 ⟨rfl, rfl⟩)
                  | (go_at_call 10; refine (user_yes w5 E Mo Po mT mR _ _ sub ss.length rs name (by exact HE5.out) (by exact HR5.out) (by omega) (by omega) hsw HWA.out).mono ?_; rintro e w7 ⟨blk, cap, qs, rfl, hu1, hu2, hu3, hu4, hu5, hu6, hu7, hb7⟩; have HU := hid (And.intro hu4 (And.intro hu5 (And.intro hu6 hu7))); have HB7 := hid (bt HB5.out hb7); clear hu4 hu5 hu6 hu7 hb7)
                  | (go_at_call 11; refine (pm_call w7 _ rs blk cap qs sub ss.length name (by exact HR2.out.keep HB7.out) (by omega) (by omega) hsw HWA.out hu2 hu3 (by exact HU.out.1) (by exact HU.out.2.1) (by exact HU.out.2.2.1) (by exact HU.out.2.2.2)).mono ?_; rintro e w8 ⟨rfl, hb8⟩; have HB8 := hid (bt (bt HB2.out HB7.out) hb8); clear hb8))
                go_ret
                exact ⟨rfl, HB8.out⟩
end Go.Proofs.Qxb6614485aFmt
