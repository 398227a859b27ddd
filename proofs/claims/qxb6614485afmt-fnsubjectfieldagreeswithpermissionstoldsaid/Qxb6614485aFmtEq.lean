/- slices.Equal (32); rc is an order. -/
import Derived.Test.Qxb6614485aFmtCmp
import Derived.Deep.RegionHeld3
namespace Go.Proofs.Qxb6614485aFmt
open Go.RowKit
def beqR : List ByteArray → List ByteArray → Bool
  | [], [] => true
  | [], _ :: _ => false
  | _ :: _, [] => false
  | a :: x, b :: y => (a.toList == b.toList) && beqR x y
theorem beqR_drop {x y : List ByteArray} {k : Nat} (h1 : k < x.length) (h2 : k < y.length) : beqR (x.drop k) (y.drop k) = (((el x k).toList == (el y k).toList) && beqR (x.drop (k + 1)) (y.drop (k + 1))) := by
  rw [drop_cons x ⟨#[]⟩ k h1, drop_cons y ⟨#[]⟩ k h2, beqR]; rfl
theorem beqR_end {x y : List ByteArray} {k : Nat} (h1 : k = x.length) (h2 : k = y.length) : beqR (x.drop k) (y.drop k) = true := by
  rw [List.drop_of_length_le (l := y) (by omega), List.drop_of_length_le (l := x) (by omega), beqR]
theorem beqR_len : ∀ {x y : List ByteArray}, x.length ≠ y.length → beqR x y = false
  | [], [], h => absurd rfl h
  | [], _ :: _, _ => rfl
  | _ :: _, [], _ => rfl
  | a :: x, b :: y, h => by rw [beqR, beqR_len (x := x) (y := y) (by simpa using h)]; simp
theorem toList_inj {a b : ByteArray} (h : (a.toList == b.toList) = true) : a = b := by
  have h' : a.toList = b.toList := by simpa using h
  rw [Go.Lib.toList_data, Go.Lib.toList_data] at h'
  cases a; cases b; simp_all
theorem beqR_iff : ∀ (x y : List ByteArray), beqR x y = true ↔ x = y
  | [], [] => by simp [beqR]
  | [], _ :: _ => by simp [beqR]
  | _ :: _, [] => by simp [beqR]
  | a :: x, b :: y => by
    rw [beqR, Bool.and_eq_true, beqR_iff x y]
    constructor
    · rintro ⟨h1, rfl⟩; rw [toList_inj h1]
    · rintro h; cases h; simp
theorem bl_cases : ∀ x y : List UInt8, (Op.bytesLess x y = true ∧ Op.bytesLess y x = false ∧ x ≠ y) ∨ (x = y ∧ Op.bytesLess x y = false) ∨ (Op.bytesLess y x = true ∧ Op.bytesLess x y = false ∧ x ≠ y)
  | [], [] => .inr (.inl ⟨rfl, rfl⟩)
  | [], _ :: _ => .inl ⟨rfl, rfl, by simp⟩
  | _ :: _, [] => .inr (.inr ⟨rfl, rfl, by simp⟩)
  | a :: x, b :: y => by
    have hab : a < b ∨ a = b ∨ b < a := by
      rcases Nat.lt_trichotomy a.toNat b.toNat with h | h | h
      · exact .inl (UInt8.lt_iff_toNat_lt.2 h)
      · exact .inr (.inl (UInt8.toNat_inj.1 h))
      · exact .inr (.inr (UInt8.lt_iff_toNat_lt.2 h))
    rcases hab with h | h | h
    · have h' : ¬ b < a := fun h2 => by rw [UInt8.lt_iff_toNat_lt] at h h2; omega
      have h3 : ¬ a = b := fun e => by subst e; exact h' h
      have h4 : ¬ b = a := fun e => h3 e.symm
      exact .inl ⟨by simp [Op.bytesLess, h], by simp [Op.bytesLess, h', h4], by simp [h3]⟩
    · subst h
      have h' : ¬ a < a := fun h2 => by rw [UInt8.lt_iff_toNat_lt] at h2; omega
      rcases bl_cases x y with ⟨h1, h2, h3⟩ | ⟨rfl, h1⟩ | ⟨h1, h2, h3⟩
      · exact .inl ⟨by simp [Op.bytesLess, h1], by simp [Op.bytesLess, h', h2], by simpa using h3⟩
      · exact .inr (.inl ⟨rfl, by simp [Op.bytesLess, h', h1]⟩)
      · exact .inr (.inr ⟨by simp [Op.bytesLess, h1], by simp [Op.bytesLess, h', h2], by simpa using h3⟩)
    · have h' : ¬ a < b := fun h2 => by rw [UInt8.lt_iff_toNat_lt] at h h2; omega
      have h3 : ¬ a = b := fun e => by subst e; exact h' h
      have h4 : ¬ b = a := fun e => h3 e.symm
      exact .inr (.inr ⟨by simp [Op.bytesLess, h], by simp [Op.bytesLess, h', h3], by simp [h3]⟩)
theorem bl_trans : ∀ x y z : List UInt8, Op.bytesLess x y = true → Op.bytesLess y z = true → Op.bytesLess x z = true
  | [], [], _, h, _ => by simp [Op.bytesLess] at h
  | [], _ :: _, [], _, h => by simp [Op.bytesLess] at h
  | [], _ :: _, _ :: _, _, _ => rfl
  | _ :: _, [], _, h, _ => by simp [Op.bytesLess] at h
  | _ :: _, _ :: _, [], _, h => by simp [Op.bytesLess] at h
  | a :: x, b :: y, c :: z, h1, h2 => by
    simp only [Op.bytesLess, Bool.or_eq_true, Bool.and_eq_true, decide_eq_true_eq, beq_iff_eq] at h1 h2 ⊢
    rcases h1 with h1 | ⟨rfl, h1⟩
    · rcases h2 with h2 | ⟨rfl, h2⟩
      · left; rw [UInt8.lt_iff_toNat_lt] at *; omega
      · exact .inl h1
    · rcases h2 with h2 | ⟨rfl, h2⟩
      · exact .inl h2
      · exact .inr ⟨rfl, bl_trans x y z h1 h2⟩
/-- the other way round -/
theorem sc_neg (a b : ByteArray) : sc b a = - sc a b := by
  unfold sc
  rcases bl_cases a.toList b.toList with ⟨h1, h2, h3⟩ | ⟨h1, h2⟩ | ⟨h1, h2, h3⟩
  · have h4 : (b.toList == a.toList) = false := by simpa using fun e => h3 e.symm
    simp [h1, h2, h4]
  · rw [h1] at h2 ⊢
    simp [h2]
  · have h4 : (a.toList == b.toList) = false := by simpa using h3
    simp [h1, h2, h4]
theorem sc_zero (a b : ByteArray) : sc a b = 0 ↔ a = b := by
  constructor
  · intro h
    rcases sc_cases a b with ⟨h1, _⟩ | ⟨_, _, h1⟩ | ⟨h1, _⟩
    · omega
    · exact toList_inj h1
    · omega
  · rintro rfl
    have := sc_neg a a
    omega
theorem sc_lt (a b : ByteArray) : sc a b < 0 ↔ Op.bytesLess a.toList b.toList = true := by
  rcases sc_cases a b with ⟨h1, h2⟩ | ⟨h1, h2, _⟩ | ⟨h1, h2, _⟩ <;> simp [h1, h2]
theorem rc_self : ∀ x, rc x x = 0
  | [] => rfl
  | a :: x => by rw [rc, if_pos ((sc_zero a a).2 rfl)]; exact rc_self x
theorem rc_neg : ∀ x y, rc y x = - rc x y
  | [], [] => rfl
  | [], _ :: _ => rfl
  | _ :: _, [] => rfl
  | a :: x, b :: y => by
    rw [rc, rc, sc_neg a b]
    by_cases h : sc a b = 0
    · rw [if_pos h, if_pos (by omega)]; exact rc_neg x y
    · rw [if_neg h, if_neg (by omega)]
theorem rc_zero : ∀ x y, rc x y = 0 ↔ x = y
  | [], [] => by simp [rc]
  | [], _ :: _ => by simp [rc]
  | _ :: _, [] => by simp [rc]
  | a :: x, b :: y => by
    rw [rc]
    by_cases h : sc a b = 0
    · rw [if_pos h, rc_zero x y, (sc_zero a b).1 h]; simp
    · rw [if_neg h]
      constructor
      · intro h'; exact absurd h' h
      · intro h'; cases h'; exact absurd ((sc_zero a a).2 rfl) h
theorem rc_trans : ∀ x y z, rc x y < 0 → rc y z < 0 → rc x z < 0
  | [], [], _, h, _ => by simp [rc] at h
  | [], _ :: _, [], _, h => by simp [rc] at h
  | [], _ :: _, _ :: _, _, _ => by simp [rc]
  | _ :: _, [], _, h, _ => by simp [rc] at h
  | _ :: _, _ :: _, [], _, h => by simp [rc] at h
  | a :: x, b :: y, c :: z, h1, h2 => by
    rw [rc] at h1 h2 ⊢
    by_cases e1 : sc a b = 0
    · rw [if_pos e1] at h1
      rw [(sc_zero a b).1 e1]
      by_cases e2 : sc b c = 0
      · rw [if_pos e2] at h2 ⊢
        exact rc_trans x y z h1 h2
      · rw [if_neg e2] at h2 ⊢
        exact h2
    · rw [if_neg e1] at h1
      by_cases e2 : sc b c = 0
      · rw [← (sc_zero b c).1 e2, if_neg e1]; exact h1
      · rw [if_neg e2] at h2
        have h3 : sc a c < 0 := (sc_lt a c).2 (bl_trans _ _ _ ((sc_lt a b).1 h1) ((sc_lt b c).1 h2))
        rw [if_neg (by omega)]; exact h3
set_option maxHeartbeats 2000000 in
/-- slices.Equal (32) -/
theorem eqRow (v1 v2 : Value) (x y : List ByteArray) (w : World) (h1 : RowAt w v1 x) (h2 : RowAt w v2 y) (hx : x.length ≤ 2000000) :
    Calls Tryf.prog 32 #[v1, v2] w fun e w' => e = .returned (.bool (beqR x y)) ∧ Below w.heap.size w w' := by
  obtain ⟨a, c, rfl, h1⟩ := h1
  obtain ⟨a', c', rfl, h2⟩ := h2
  have H1 := hid h1
  have H2 := hid h2
  clear h1 h2
  by_cases hl : x.length = y.length
  · have hl2 : ((x.length : Int) != (y.length : Int)) = false := by simp [hl]
    go_enter Tryf.func32, Tryf.ntmps32
    go_wp2_with fail
    go_loopw [13] (fun i wr => ∃ k : Nat, k ≤ x.length ∧ i = .int .i64 k ∧ beqR x y = beqR (x.drop k) (y.drop k) ∧ Below w.heap.size w wr) (fun i _ => x.length - (intOf i).toNat)
    case atStart => exact ⟨0, Nat.zero_le _, rfl, by simp, Below.refl _ _⟩
    case round =>
      obtain ⟨k, hk, rfl, hrc, hb⟩ := hrel
      have HR := hid hrc
      clear hrc
      by_cases hkx : k < x.length
      · rcases H1.out with h | ⟨g, o, rfl, hg, hc⟩
        · omega
        have c1 := (hb.cell (p := ⟨g, o + k, none⟩) hg).trans (hc k hkx)
        rcases H2.out with h | ⟨g', o', rfl, hg', hc'⟩
        · omega
        have c2 := (hb.cell (p := ⟨g', o' + k, none⟩) hg').trans (hc' k (by omega))
        clear hc hc'
        have hd := beqR_drop hkx (show k < y.length by omega)
        cases hq : ((el x k).toList == (el y k).toList)
        · have HN := hid (show beqR x y = false by rw [HR.out, hd, hq]; rfl)
          have hq2 : ((el x k).toList != (el y k).toList) = true := by simp [bne, hq]
          clear hd
          go_wp2_with fail
          go_region
          all_goals
            go_wp2_with fail
            go_ret
            exact ⟨by rw [HN.out]; rfl, hb.drew⟩
        · have HN := hid (show beqR x y = beqR (x.drop (k + 1)) (y.drop (k + 1)) by rw [HR.out, hd, hq]; rfl)
          have hq2 : ((el x k).toList != (el y k).toList) = false := by simp [bne, hq]
          clear hd
          go_wp2_with fail
          go_region
          all_goals
            go_wp2_with fail
            go_roundw
            case rel => exact ⟨k + 1, by omega, by go_num, HN.out, hb.drew⟩
            case measure => simp [intOf]; omega
      · have HN := hid (show beqR x y = true by rw [HR.out, beqR_end (by omega) (by omega)])
        go_wp2_with fail
        go_ret
        exact ⟨by rw [HN.out]; rfl, hb⟩
  · have HN := hid (beqR_len hl)
    have hl2 : ((x.length : Int) != (y.length : Int)) = true := by simpa using (by omega : (x.length : Int) ≠ (y.length : Int))
    go_enter Tryf.func32, Tryf.ntmps32
    go_wp2_with fail
    go_ret
    exact ⟨by rw [HN.out]; rfl, Below.refl _ _⟩
end Go.Proofs.Qxb6614485aFmt
