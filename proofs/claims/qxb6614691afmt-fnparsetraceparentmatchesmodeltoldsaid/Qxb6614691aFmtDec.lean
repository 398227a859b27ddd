/- The contracts of decodeLowerHex (11) and decodeID (13). -/
import Derived.Test.Qxb6614691aFmtErr
import Derived.Laws.BitsAllLaws
namespace Go.Proofs.Qxb6614691aFmt
open Go.RowKit Go.Extern.Stop Go.Stop Go.Extern
theorem Tryf.fmtF (w : World) : (FmtDoors.printed ⟨#[99, 104, 97, 114, 97, 99, 116, 101, 114, 115, 32, 37, 100, 32, 97, 110, 100, 32, 37, 100, 32, 97, 114, 101, 32, 110, 111, 116, 32, 98, 111, 116, 104, 32, 108, 111, 119, 101, 114, 99, 97, 115, 101, 32, 104, 101, 120, 97, 100, 101, 99, 105, 109, 97, 108, 32, 100, 105, 103, 105, 116, 115]⟩ 2).run Tryf.prog w = .ok [(0, 100, false), (1, 100, false)] w := by kernel_rfl
theorem lower_yes (c : Int) (w : World) (h : 0 ≤ hexv c) :
    Calls Tryf.prog 15 #[.int .u8 c] w fun e w' => e = .returned (.tuple #[.int .u8 (hexv c), .bool true]) ∧ w = w' := by
  by_cases h1 : 48 ≤ c ∧ c ≤ 57
  · have e : hexv c = c - 48 := by unfold hexv; rw [if_pos h1]
    rw [e]; exact lower_num c w h1.1 h1.2
  · by_cases h2 : 97 ≤ c ∧ c ≤ 102
    · have e : hexv c = c - 87 := by unfold hexv; rw [if_neg h1, if_pos h2]
      rw [e]; exact lower_let c w h2.1 h2.2
    · have e : hexv c = -1 := by unfold hexv; rw [if_neg h1, if_neg h2]
      omega
/-- the byte of s at i -/
def byt (s : ByteArray) (i : Nat) : Int := ((s.data.toList.getD i 0).toNat : Int)
theorem byt_eq (s : ByteArray) (i : Nat) (h : i < s.size) : (s[i].toNat : Int) = byt s i := by
  have h' : i < s.data.toList.length := h
  have : s[i] = s.data.toList[i] := rfl
  rw [byt, this, List.getD, List.getElem?_eq_getElem h']; rfl
theorem grown_refl (w : World) (r : Option Nat) : w.grownBy w r := ⟨rfl, rfl, rfl, Nat.le_refl _, fun _ _ _ => rfl⟩
theorem grown_trans {a b c : World} {r : Option Nat} (h : a.grownBy b r) (k : b.grownBy c r) : a.grownBy c r :=
  ⟨k.os.trans h.os, k.tape.trans h.tape, k.output.trans h.output, Nat.le_trans h.size k.size, fun i hi hr => (k.block i (Nat.lt_of_lt_of_le hi h.size) hr).trans (h.block i hi hr)⟩
theorem grown_of_below {a b : World} {r : Option Nat} (h : Below a.heap.size a b) : a.grownBy b r :=
  ⟨h.os, h.tape, h.output, h.size, fun i hi _ => h.block i hi⟩
theorem byt_range (s : ByteArray) (i : Nat) : 0 ≤ byt s i ∧ byt s i ≤ 255 := by
  have := (s.data.toList.getD i 0).toNat_lt
  unfold byt; omega
/-- the byte that two digits at i spell -/
def pair (s : ByteArray) (i : Nat) : Int := hexv (byt s i) * 16 + hexv (byt s (i + 1))
def goodAt (s : ByteArray) (i : Nat) : Prop := 0 ≤ hexv (byt s i)
theorem or16 (x y : Int) (h0 : 0 ≤ x) (h1 : x ≤ 15) (h2 : 0 ≤ y) (h3 : y ≤ 15) : bits .or .u8 (x * 16) y = x * 16 + y := by
  obtain ⟨a, rfl⟩ := Int.eq_ofNat_of_zero_le h0
  obtain ⟨b, rfl⟩ := Int.eq_ofNat_of_zero_le h2
  have h := u8_or_nat (a * 16) b (by omega) (by omega)
  have h4 : a * 16 ||| b = a * 16 + b := by
    have := Nat.two_pow_add_eq_or_of_lt (show b < 2 ^ 4 by omega) a
    rw [Nat.mul_comm] at this; exact this.symm
  rw [h4] at h
  simpa using h
theorem owns_below {w w' : World} {base T B N : Nat} {xs : List Value} (h : w.ownsRow base T 1 (.slice (some ⟨B, 0, none⟩) N N) N xs) (hb : Below w.heap.size w w') :
    w'.ownsRow base T 1 (.slice (some ⟨B, 0, none⟩) N N) N xs := h.kept (grown_of_below (r := none) hb) (Or.inr (by simp [Value.ownBlock]))
set_option maxHeartbeats 1000000 in
theorem lowerHex_any (s : ByteArray) (base T B off n c N : Nat) (xs : List Value) (w : World) (hn : n ≤ 100) (hs : s.size = 2 * n) (hN : off + n ≤ N) (hN2 : N ≤ 1000)
    (ho : w.ownsRow base T 1 (.slice (some ⟨B, 0, none⟩) N N) N xs) :
    Calls Tryf.prog 11 #[.slice (some ⟨B, off, none⟩) n c, .string s] w fun e w' => ∃ xs', w'.ownsRow base T 1 (.slice (some ⟨B, 0, none⟩) N N) N xs' ∧ w.grownBy w' (some B) ∧
      (((∀ j, j < 2 * n → goodAt s j) ∧ e = .returned .nilIface ∧ ∀ j, j < N → xs'[j]? = if off ≤ j ∧ j < off + n then some (.int .u8 (pair s (2 * (j - off)))) else xs[j]?) ∨
       ((∃ j, j < 2 * n ∧ ¬ goodAt s j) ∧ ∃ v, e = .returned v ∧ IsErr w.heap.size w' v)) := by
  have HO : Hid (w.ownsRow base T 1 (.slice (some ⟨B, 0, none⟩) N N) N xs) := ho
  have HS : Hid (s.size = 2 * n) := hs
  have hs1 : s.size ≤ 2 * n := by omega
  have hs2 : 2 * n ≤ s.size := by omega
  have hq0 : (((s.size : Nat) : Int) != 2 * (n : Int)) = false := by simp; omega
  clear hs ho
  go_enter Tryf.func11, Tryf.ntmps11
  go_wp2
  go_loopw [27] (fun i wr => ∃ (k : Nat) (xs' : List Value), k ≤ n ∧ i = .int .i64 k ∧ wr.ownsRow base T 1 (.slice (some ⟨B, 0, none⟩) N N) N xs' ∧ w.grownBy wr (some B) ∧
      Hid (∀ j, j < 2 * k → goodAt s j) ∧ Hid (∀ j, j < N → xs'[j]? = if off ≤ j ∧ j < off + k then some (.int .u8 (pair s (2 * (j - off)))) else xs[j]?))
    (fun i _ => n - (intOf i).toNat)
  case atStart => exact ⟨0, xs, Nat.zero_le _, rfl, HO.out, grown_refl w _, fun j hj => by omega, fun j hj => by rw [if_neg (by omega)]⟩
  case round =>
    obtain ⟨k, xs', hk, rfl, ho, hg, HG, HX⟩ := hrel
    by_cases hlt : k < n
    · have hc0 := byt_eq s (2 * k) (by omega)
      have hc1 := byt_eq s (2 * k + 1) (by omega)
      have hr0 := byt_range s (2 * k)
      have hr1 := byt_range s (2 * k + 1)
      rw [← hc0] at hr0
      rw [← hc1] at hr1
      have hxl : xs'.length = N := by have := ho.1; omega
      have hcd' : ∃ x, wr.cell? ⟨B, off + k, none⟩ = some x := ⟨xs'[off + k]'(by omega), by rw [ho.cellAt (off + k) (by omega)]; simp⟩
      obtain ⟨x, hx⟩ := hcd'
      have hfr := ho.frozenAt (off + k)
      have HOk : Hid (wr.ownsRow base T 1 (.slice (some ⟨B, 0, none⟩) N N) N xs') := ho
      have HC0 : Hid ((s[2 * k].toNat : Int) = byt s (2 * k)) := hc0
      have HC1 : Hid ((s[2 * k + 1].toNat : Int) = byt s (2 * k + 1)) := hc1
      clear ho hxl hc0 hc1
      by_cases hg0 : 0 ≤ hexv (s[2 * k].toNat : Int)
      · by_cases hg1 : 0 ≤ hexv (s[2 * k + 1].toNat : Int)
        · have hv0 := hexv_range (s[2 * k].toNat : Int)
          have hv1 := hexv_range (s[2 * k + 1].toNat : Int)
          go_wp2_with fail
          refine (lower_yes _ _ hg0).mono ?_
          rintro e w' ⟨rfl, rfl⟩
          go_wp2_with fail
          refine (lower_yes _ _ hg1).mono ?_
          rintro e w' ⟨rfl, rfl⟩
          go_wp2
          go_roundw
          case rel =>
            have hbv : bits .or .u8 (hexv (s[2 * k].toNat : Int) * 16) (hexv (s[2 * k + 1].toNat : Int)) = pair s (2 * k) := by
              rw [or16 _ _ (by omega) (by omega) (by omega) (by omega), HC0.out, HC1.out]; rfl
            rw [hbv]
            have hst := HOk.out.stored (off + k) (.int .u8 (pair s (2 * k)))
            have hxl : xs'.length = N := by have := HOk.out.1; omega
            refine ⟨k + 1, _, by omega, by go_num, hst.1, grown_trans hg hst.2, ?_, ?_⟩
            · intro j hj
              by_cases h2 : j < 2 * k
              · exact HG.out j h2
              · rcases (show j = 2 * k ∨ j = 2 * k + 1 by omega) with rfl | rfl
                · unfold goodAt; rw [← HC0.out]; exact hg0
                · unfold goodAt; rw [← HC1.out]; exact hg1
            · intro j hj
              rw [List.getElem?_set]
              split
              · rename_i e
                subst e
                rw [if_pos (by omega), if_pos (by omega), show off + k - off = k by omega]
              · rw [HX.out j hj]
                by_cases h3 : off ≤ j ∧ j < off + k
                · rw [if_pos h3, if_pos (by omega)]
                · rw [if_neg h3, if_neg (by omega)]
          case measure => simp [intOf]; omega
        · have hno : hexv (s[2 * k + 1].toNat : Int) = -1 := by have := hexv_range (s[2 * k + 1].toNat : Int); omega
          go_wp2_with fail
          refine (lower_yes _ _ hg0).mono ?_
          rintro e w' ⟨rfl, rfl⟩
          go_wp2_with fail
          refine (lower_no _ _ hr1.1 hr1.2 hno).mono ?_
          rintro e w' ⟨rfl, rfl⟩
          go_wp2_with fail
          refine (errorf_two _ _ (2 * k + 1) (2 * k + 2) _ Tryf.fmtF (by simp) (by simp)).mono ?_
          rintro e w2 ⟨v, rfl, hv, hb⟩
          go_wp2
          go_ret
          exact ⟨xs', owns_below HOk.out ((Below.refl _ _).alloc (Nat.le_refl _) _ |>.trans (hb.mono (by simp))), grown_trans hg (grown_of_below ((Below.refl _ _).alloc (Nat.le_refl _) _ |>.trans (hb.mono (by simp)))), Or.inr ⟨⟨2 * k + 1, by omega, by unfold goodAt; rw [← HC1.out]; omega⟩, _, rfl, hv.low (by have := hg.size; simp; omega)⟩⟩
      · have hno : hexv (s[2 * k].toNat : Int) = -1 := by have := hexv_range (s[2 * k].toNat : Int); omega
        by_cases hg1 : 0 ≤ hexv (s[2 * k + 1].toNat : Int)
        · go_wp2_with fail
          refine (lower_no _ _ hr0.1 hr0.2 hno).mono ?_
          rintro e w' ⟨rfl, rfl⟩
          go_wp2_with fail
          refine (lower_yes _ _ hg1).mono ?_
          rintro e w' ⟨rfl, rfl⟩
          go_wp2_with fail
          refine (errorf_two _ _ (2 * k + 1) (2 * k + 2) _ Tryf.fmtF (by simp) (by simp)).mono ?_
          rintro e w2 ⟨v, rfl, hv, hb⟩
          go_wp2
          go_ret
          exact ⟨xs', owns_below HOk.out ((Below.refl _ _).alloc (Nat.le_refl _) _ |>.trans (hb.mono (by simp))), grown_trans hg (grown_of_below ((Below.refl _ _).alloc (Nat.le_refl _) _ |>.trans (hb.mono (by simp)))), Or.inr ⟨⟨2 * k, by omega, by unfold goodAt; rw [← HC0.out]; omega⟩, _, rfl, hv.low (by have := hg.size; simp; omega)⟩⟩
        · have hno1 : hexv (s[2 * k + 1].toNat : Int) = -1 := by have := hexv_range (s[2 * k + 1].toNat : Int); omega
          go_wp2_with fail
          refine (lower_no _ _ hr0.1 hr0.2 hno).mono ?_
          rintro e w' ⟨rfl, rfl⟩
          go_wp2_with fail
          refine (lower_no _ _ hr1.1 hr1.2 hno1).mono ?_
          rintro e w' ⟨rfl, rfl⟩
          go_wp2_with fail
          refine (errorf_two _ _ (2 * k + 1) (2 * k + 2) _ Tryf.fmtF (by simp) (by simp)).mono ?_
          rintro e w2 ⟨v, rfl, hv, hb⟩
          go_wp2
          go_ret
          exact ⟨xs', owns_below HOk.out ((Below.refl _ _).alloc (Nat.le_refl _) _ |>.trans (hb.mono (by simp))), grown_trans hg (grown_of_below ((Below.refl _ _).alloc (Nat.le_refl _) _ |>.trans (hb.mono (by simp)))), Or.inr ⟨⟨2 * k, by omega, by unfold goodAt; rw [← HC0.out]; omega⟩, _, rfl, hv.low (by have := hg.size; simp; omega)⟩⟩
    · go_wp2
      go_ret
      have hkn : k = n := by omega
      subst hkn
      exact ⟨xs', ho, hg, Or.inl ⟨HG, rfl, HX⟩⟩
end Go.Proofs.Qxb6614691aFmt
