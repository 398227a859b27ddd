/- zzBytes (4): some bool, the world untouched; where it is true, no length is above 2^20. -/
import Derived.Test.Qxb6614485aFmtRowsC
namespace Go.Proofs.Qxb6614485aFmt
open Go.RowKit
/-- no string of the row is longer than 2^20 -/
def SB (r : List ByteArray) : Prop := ∀ i, i < r.length → (el r i).size ≤ 1048576
def RB (r : List ByteArray) : Prop := r.length ≤ 1048576 ∧ SB r
theorem upto {P : Nat → Prop} {k : Nat} (h : ∀ i, i < k → P i) (hk : P k) : ∀ i, i < k + 1 → P i := fun i hi => by
  by_cases e : i = k
  · subst e; exact hk
  · exact h i (by omega)
set_option maxHeartbeats 4000000 in
set_option maxRecDepth 100000 in
theorem zz_any (vF vR : Value) (ss : List ByteArray) (rs : List (List ByteArray)) (name : ByteArray) (w : World) (hF : RowAt w vF ss) (hR : RowsAt w vR rs) :
    Calls Tryf.prog 4 #[vF, vR, .string name] w fun e w' => (∃ b, e = .returned (.bool b) ∧ (b = true → SB ss ∧ ∀ i, i < rs.length → RB (rowAt rs i))) ∧ w = w' := by
  obtain ⟨a, c, rfl, hF⟩ := hF
  obtain ⟨a2, c2, rfl, hR⟩ := hR
  have HF := hid hF
  have HR := hid hR
  clear hF hR
  go_enter Tryf.func4, Tryf.ntmps4
  by_cases h1 : ss.length ≤ 1048576
  case neg =>
    go_wp2_with fail
    go_ret
    exact ⟨⟨_, rfl, by simp⟩, rfl⟩
  go_wp2_with fail
  go_loopw [7, 8] (fun s i wr => ∃ z k : Nat, z ≤ 1048576 ∧ k ≤ ss.length ∧ s = .int .i64 z ∧ i = .int .i64 k ∧ (∀ i, i < k → (el ss i).size ≤ 1048576) ∧ w = wr) (fun _ i _ => ss.length - (intOf i).toNat)
  case atStart => exact ⟨ss.length, 0, h1, Nat.zero_le _, by go_num, rfl, fun i hi => by omega, rfl⟩
  case round =>
    obtain ⟨z, k, hz, hk, rfl, rfl, hsb, rfl⟩ := hrel
    have HSB := hid hsb
    clear hsb
    by_cases hkn : k < ss.length
    · rcases HF.out with h | ⟨g, o, rfl, hg, hc⟩
      · omega
      have c1 := hc k hkn
      clear hc
      have HN : Hid ((el ss k).size ≤ 1048576 → ∀ i, i < k + 1 → (el ss i).size ≤ 1048576) := hid (fun h => upto HSB.out h)
      generalize el ss k = x at c1 HN
      by_cases h3 : x.size ≤ 1048576
      case neg =>
        go_wp2_with fail
        go_ret
        exact ⟨⟨_, rfl, by simp⟩, rfl⟩
      by_cases h4 : z + x.size ≤ 1048576
      case neg =>
        go_wp2_with fail
        go_ret
        exact ⟨⟨_, rfl, by simp⟩, rfl⟩
      go_wp2_with fail
      go_roundw
      case rel => exact ⟨z + x.size, k + 1, h4, by omega, by go_num, by go_num, HN.out h3, by trivial⟩
      case measure => simp [intOf]; omega
    · have HSS : Hid (SB ss) := hid (fun i hi => HSB.out i (by omega))
      clear HSB
      by_cases h5 : rs.length ≤ 1048576
      case neg =>
        go_wp2_with fail
        go_ret
        exact ⟨⟨_, rfl, by simp⟩, rfl⟩
      by_cases h6 : z + rs.length ≤ 1048576
      case neg =>
        go_wp2_with fail
        go_ret
        exact ⟨⟨_, rfl, by simp⟩, rfl⟩
      go_wp2_with fail
      go_loopw [7, 9] (fun s i wr => ∃ y j : Nat, y ≤ 1048576 ∧ j ≤ rs.length ∧ s = .int .i64 y ∧ i = .int .i64 j ∧ (∀ i, i < j → RB (rowAt rs i)) ∧ w = wr) (fun _ i _ => rs.length - (intOf i).toNat)
      case atStart => exact ⟨z + rs.length, 0, h6, Nat.zero_le _, by go_num, rfl, fun i hi => by omega, rfl⟩
      case round =>
        obtain ⟨y, j, hy, hj, rfl, rfl, hrb, rfl⟩ := hrel
        have HRB := hid hrb
        clear hrb
        by_cases hjn : j < rs.length
        · rcases HR.out with h | ⟨g, o, vf, rfl, hg, hc⟩
          · omega
          have c1 := (hc j hjn).1
          have HV := hid (hc j hjn).2
          clear hc
          have HN : Hid (RB (rowAt rs j) → ∀ i, i < j + 1 → RB (rowAt rs i)) := hid (fun h => upto HRB.out h)
          generalize vf j = v at c1 HV
          generalize rowAt rs j = row at HV HN
          obtain ⟨a3, c3, rfl, hV⟩ := HV.out
          have HW := hid hV
          clear hV HV
          by_cases h7 : row.length ≤ 1048576
          case neg =>
            go_wp2_with fail
            go_ret
            exact ⟨⟨_, rfl, by simp⟩, rfl⟩
          by_cases h8 : y + row.length ≤ 1048576
          case neg =>
            go_wp2_with fail
            go_ret
            exact ⟨⟨_, rfl, by simp⟩, rfl⟩
          go_wp2_with fail
          go_loopw [7, 10] (fun s i wr => ∃ u t : Nat, u ≤ 1048576 ∧ t ≤ row.length ∧ s = .int .i64 u ∧ i = .int .i64 t ∧ (∀ i, i < t → (el row i).size ≤ 1048576) ∧ w = wr) (fun _ i _ => row.length - (intOf i).toNat)
          case atStart => exact ⟨y + row.length, 0, h8, Nat.zero_le _, by go_num, rfl, fun i hi => by omega, rfl⟩
          case round =>
            obtain ⟨u, t, hu, ht, rfl, rfl, htb, rfl⟩ := hrel
            have HTB := hid htb
            clear htb
            by_cases htn : t < row.length
            · rcases HW.out with h | ⟨g4, o4, rfl, hg4, hc4⟩
              · omega
              have c4 := hc4 t htn
              clear hc4
              have HN2 : Hid ((el row t).size ≤ 1048576 → ∀ i, i < t + 1 → (el row i).size ≤ 1048576) := hid (fun h => upto HTB.out h)
              generalize el row t = x at c4 HN2
              by_cases h9 : x.size ≤ 1048576
              case neg =>
                go_wp2_with fail
                go_ret
                exact ⟨⟨_, rfl, by simp⟩, rfl⟩
              by_cases h10 : u + x.size ≤ 1048576
              case neg =>
                go_wp2_with fail
                go_ret
                exact ⟨⟨_, rfl, by simp⟩, rfl⟩
              go_wp2_with fail
              go_roundw
              case rel => exact ⟨u + x.size, t + 1, h10, by omega, by go_num, by go_num, HN2.out h9, by trivial⟩
              case measure => simp [intOf]; omega
            · have HT : Hid (SB row) := hid (fun i hi => HTB.out i (by omega))
              go_wp2_with fail
              go_roundw
              case rel => exact ⟨u, j + 1, hu, by omega, by go_num, by go_num, HN.out ⟨h7, HT.out⟩, by trivial⟩
              case measure => simp [intOf]; omega
        · by_cases h11 : name.size ≤ 1048576
          case neg =>
            go_wp2_with fail
            go_ret
            exact ⟨⟨_, rfl, by simp⟩, rfl⟩
          by_cases h12 : y + name.size ≤ 1048576
          case neg =>
            go_wp2_with fail
            go_ret
            exact ⟨⟨_, rfl, by simp⟩, rfl⟩
          go_wp2_with fail
          go_ret
          exact ⟨⟨_, rfl, fun _ => ⟨HSS.out, fun i hi => HRB.out i (by omega)⟩⟩, rfl⟩
end Go.Proofs.Qxb6614485aFmt
