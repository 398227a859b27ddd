/- The contract of decodeID (13). -/
import Derived.Test.Qxb6614691aFmtDec
namespace Go.Proofs.Qxb6614691aFmt
open Go.RowKit Go.Extern.Stop Go.Stop Go.Extern
/-- an error is no nil -/
theorem isErr_ne {lo : Nat} {w : World} {v : Value} (h : IsErr lo w v) : ∃ t a, v = .iface t (.pointer (some a)) := by
  obtain ⟨a, s, hv, _⟩ := h
  rcases hv with rfl | rfl
  · exact ⟨50, a, rfl⟩
  · exact ⟨46, a, rfl⟩
theorem pair_range (s : ByteArray) (i : Nat) (h0 : goodAt s i) (h1 : goodAt s (i + 1)) : 0 ≤ pair s i ∧ pair s i ≤ 255 := by
  have h2 := hexv_range (byt s i)
  have h3 := hexv_range (byt s (i + 1))
  unfold goodAt at h0 h1
  unfold pair; omega
set_option maxHeartbeats 1000000 in
theorem decodeID_any (s : ByteArray) (base T B off n c N : Nat) (xs : List Value) (w : World) (hn : n ≤ 100) (hs : s.size = 2 * n) (hN : off + n ≤ N) (hN2 : N ≤ 1000)
    (ho : w.ownsRow base T 1 (.slice (some ⟨B, 0, none⟩) N N) N xs) :
    Calls Tryf.prog 13 #[.slice (some ⟨B, off, none⟩) n c, .string s] w fun e w' => ∃ xs', w'.ownsRow base T 1 (.slice (some ⟨B, 0, none⟩) N N) N xs' ∧ w.grownBy w' (some B) ∧
      (((∀ j, j < 2 * n → goodAt s j) ∧ (∃ j, j < n ∧ pair s (2 * j) ≠ 0) ∧ e = .returned .nilIface ∧ ∀ j, j < N → xs'[j]? = if off ≤ j ∧ j < off + n then some (.int .u8 (pair s (2 * (j - off)))) else xs[j]?) ∨
       (((∃ j, j < 2 * n ∧ ¬ goodAt s j) ∨ ∀ j, j < n → pair s (2 * j) = 0) ∧ ∃ v, e = .returned v ∧ IsErr w.heap.size w' v)) := by
  have HO : Hid (w.ownsRow base T 1 (.slice (some ⟨B, 0, none⟩) N N) N xs) := ho
  have HS : Hid (s.size = 2 * n) := hs
  clear ho hs
  go_enter Tryf.func13, Tryf.ntmps13
  go_wp2_with fail
  refine (lowerHex_any s base T B off n c N xs w hn HS.out hN hN2 HO.out).mono ?_
  rintro e w1 ⟨xs', ho, hg, hor⟩
  rcases hor with ⟨hgood, rfl, hx⟩ | ⟨hbad, v, rfl, hv⟩
  · have HX : Hid (∀ j, j < N → xs'[j]? = if off ≤ j ∧ j < off + n then some (.int .u8 (pair s (2 * (j - off)))) else xs[j]?) := hx
    have HG : Hid (∀ j, j < 2 * n → goodAt s j) := hgood
    have HOk : Hid (w1.ownsRow base T 1 (.slice (some ⟨B, 0, none⟩) N N) N xs') := ho
    clear hx hgood ho
    go_wp2
    go_loop [16] (fun i => ∃ k : Nat, k ≤ n ∧ i = .int .i64 k ∧ Hid (∀ j, j < k → pair s (2 * j) = 0)) (fun i => n - (intOf i).toNat)
    case atStart => exact ⟨0, Nat.zero_le _, rfl, fun j hj => by omega⟩
    case round =>
      obtain ⟨k, hk, rfl, HZ⟩ := hrel
      by_cases hlt : k < n
      · have hcx : w1.cell? ⟨B, off + k, none⟩ = some (.int .u8 (pair s (2 * k))) := by
          rw [HOk.out.cellAt (off + k) (by omega), HX.out (off + k) (by omega), if_pos (by omega), show off + k - off = k by omega]
        by_cases hz : pair s (2 * k) = 0
        · have hq : (pair s (2 * k) != 0) = false := by simp [hz]
          have HZ0 : Hid (pair s (2 * k) = 0) := hz
          clear hz
          go_wp2
          go_round
          case rel =>
            refine ⟨k + 1, by omega, by go_num, ?_⟩
            intro j hj
            by_cases h2 : j < k
            · exact HZ.out j h2
            · have : j = k := by omega
              subst this; exact HZ0.out
          case measure => simp [intOf]; omega
        · have hq : (pair s (2 * k) != 0) = true := by simpa using hz
          have HZ0 : Hid (pair s (2 * k) ≠ 0) := hz
          clear hz
          go_wp2
          go_ret
          exact ⟨xs', HOk.out, hg, Or.inl ⟨HG.out, ⟨k, hlt, HZ0.out⟩, rfl, HX.out⟩⟩
      · have hkn : k = n := by omega
        subst hkn
        go_wp2_with (go_at_call 12; refine (new_any _ _).mono ?_; rintro e w2 ⟨v, rfl, hv, hb⟩)
        go_ret
        exact ⟨xs', owns_below HOk.out hb, grown_trans hg (grown_of_below hb), Or.inr ⟨Or.inr HZ.out, _, rfl, hv.low hg.size⟩⟩
  · have HV : Hid (IsErr w.heap.size w1 v) := hv
    obtain ⟨t, a, rfl⟩ := isErr_ne hv
    have HB : Hid (∃ j, j < 2 * n ∧ ¬ goodAt s j) := hbad
    have HOk : Hid (w1.ownsRow base T 1 (.slice (some ⟨B, 0, none⟩) N N) N xs') := ho
    clear hv hbad ho
    go_wp2
    go_ret
    exact ⟨xs', HOk.out, hg, Or.inr ⟨Or.inl HB.out, _, rfl, HV.out⟩⟩
end Go.Proofs.Qxb6614691aFmt
