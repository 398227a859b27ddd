/- Strings and rows compared (56, 43, 30, 17). -/
import Derived.Test.Qxb6614485aFmtCards
import Derived.WalkKit
import Derived.WalkSpells
import Derived.WalkLawsBesides
import Derived.ProofKit
import Derived.Below
import Derived.BigRegion
import Derived.Lib.Strings
namespace Go.Proofs.Qxb6614485aFmt
open Go.RowKit
theorem hid {p : Prop} (h : p) : Hid p := h
theorem ret_int {k : IntKind} {a b : Int} (h : a = b) : Ending.returned (.int k a) = .returned (.int k b) := by rw [h]
/-- two strings compared -/
def sc (a b : ByteArray) : Int := if Op.bytesLess a.toList b.toList = true then -1 else if (a.toList == b.toList) = true then 0 else 1
/-- two rows compared, element by element -/
def rc : List ByteArray → List ByteArray → Int
  | [], [] => 0
  | [], _ :: _ => -1
  | _ :: _, [] => 1
  | a :: x, b :: y => if sc a b = 0 then rc x y else sc a b
set_option maxHeartbeats 400000 in
theorem nan_no (a : ByteArray) (w : World) : Calls Tryf.prog 56 #[.string a] w fun e w' => e = .returned (.bool false) ∧ w = w' := by
  go_enter Tryf.func56, Tryf.ntmps56
  go_wp2
  go_ret
  exact ⟨rfl, rfl⟩
set_option maxHeartbeats 400000 in
theorem cmpS (a b : ByteArray) (w : World) : Calls Tryf.prog 43 #[.string a, .string b] w fun e w' => e = .returned (.int .i64 (sc a b)) ∧ w = w' := by
  rcases (show Op.bytesLess a.toList b.toList = true ∨ (Op.bytesLess a.toList b.toList = false ∧ (a.toList == b.toList) = true) ∨ (Op.bytesLess a.toList b.toList = false ∧ (a.toList == b.toList) = false) from by
    cases Op.bytesLess a.toList b.toList <;> cases (a.toList == b.toList) <;> simp) with h | ⟨h, h'⟩ | ⟨h, h'⟩
  · have e : sc a b = -1 := by simp [sc, h]
    rw [e]
    go_enter Tryf.func43, Tryf.ntmps43
    go_wp2_with (go_at_call 56; refine (nan_no _ _).mono ?_; rintro e w' ⟨rfl, rfl⟩)
    go_ret
    exact ⟨rfl, rfl⟩
  · have e : sc a b = 0 := by simp only [sc, h, h']; rfl
    rw [e]
    go_enter Tryf.func43, Tryf.ntmps43
    go_wp2_with (go_at_call 56; refine (nan_no _ _).mono ?_; rintro e w' ⟨rfl, rfl⟩)
    go_ret
    exact ⟨rfl, rfl⟩
  · have e : sc a b = 1 := by simp only [sc, h, h']; rfl
    rw [e]
    go_enter Tryf.func43, Tryf.ntmps43
    go_wp2_with (go_at_call 56; refine (nan_no _ _).mono ?_; rintro e w' ⟨rfl, rfl⟩)
    go_ret
    exact ⟨rfl, rfl⟩
/-- an element of a row -/
def el (l : List ByteArray) (i : Nat) : ByteArray := l.getD i ⟨#[]⟩
/-- a slice of strings that reads ss -/
def RowAt (w : World) (v : Value) (ss : List ByteArray) : Prop :=
  ∃ a c, v = .slice a ss.length c ∧ (ss.length = 0 ∨ ∃ g o, a = some ⟨g, o, none⟩ ∧ g < w.heap.size ∧ ∀ i, i < ss.length → w.cell? ⟨g, o + i, none⟩ = some (.string (el ss i)))
theorem RowAt.keep {w w' : World} {v : Value} {ss : List ByteArray} (h : RowAt w v ss) (hb : Below w.heap.size w w') : RowAt w' v ss := by
  obtain ⟨a, c, rfl, h⟩ := h
  refine ⟨a, c, rfl, h.imp id ?_⟩
  rintro ⟨g, o, h1, h2, h3⟩
  exact ⟨g, o, h1, Nat.lt_of_lt_of_le h2 hb.size, fun i hi => (hb.cell (p := ⟨g, o + i, none⟩) h2).trans (h3 i hi)⟩
theorem drop_cons {α : Type} (l : List α) (d : α) (k : Nat) (h : k < l.length) : l.drop k = l.getD k d :: l.drop (k + 1) := by
  rw [List.drop_eq_getElem_cons h]
  simp [List.getD, h]
theorem rc_drop {x y : List ByteArray} {k : Nat} (h1 : k < x.length) (h2 : k < y.length) : rc (x.drop k) (y.drop k) = if sc (el x k) (el y k) = 0 then rc (x.drop (k + 1)) (y.drop (k + 1)) else sc (el x k) (el y k) := by
  rw [drop_cons x ⟨#[]⟩ k h1, drop_cons y ⟨#[]⟩ k h2, rc]; rfl
theorem rc_end1 {x y : List ByteArray} {k : Nat} (h1 : k = x.length) (h2 : k < y.length) : rc (x.drop k) (y.drop k) = -1 := by
  rw [List.drop_of_length_le (by omega), drop_cons y ⟨#[]⟩ k h2, rc]
theorem rc_end2 {x y : List ByteArray} {k : Nat} (h1 : k < x.length) (h2 : k = y.length) : rc (x.drop k) (y.drop k) = 1 := by
  rw [List.drop_of_length_le (l := y) (by omega), drop_cons x ⟨#[]⟩ k h1, rc]
theorem rc_end0 {x y : List ByteArray} {k : Nat} (h1 : k = x.length) (h2 : k = y.length) : rc (x.drop k) (y.drop k) = 0 := by
  rw [List.drop_of_length_le (l := y) (by omega), List.drop_of_length_le (l := x) (by omega), rc]
set_option maxHeartbeats 2000000 in
/-- slices.Compare (30) -/
theorem cmpRow (v1 v2 : Value) (x y : List ByteArray) (w : World) (h1 : RowAt w v1 x) (h2 : RowAt w v2 y) (hx : x.length ≤ 2000000) :
    Calls Tryf.prog 30 #[v1, v2] w fun e w' => e = .returned (.int .i64 (rc x y)) ∧ w = w' := by
  obtain ⟨a, c, rfl, h1⟩ := h1
  obtain ⟨a', c', rfl, h2⟩ := h2
  have H1 := hid h1
  have H2 := hid h2
  clear h1 h2
  go_enter Tryf.func30, Tryf.ntmps30
  go_wp2_with fail
  go_loopw [11] (fun i wr => ∃ k : Nat, k ≤ x.length ∧ k ≤ y.length ∧ i = .int .i64 k ∧ rc x y = rc (x.drop k) (y.drop k) ∧ w = wr) (fun i _ => x.length - (intOf i).toNat)
  case atStart => exact ⟨0, Nat.zero_le _, Nat.zero_le _, rfl, by simp, rfl⟩
  case round =>
    obtain ⟨k, hk, hk', rfl, hrc, rfl⟩ := hrel
    have HR := hid hrc
    clear hrc
    by_cases hkx : k < x.length
    · rcases H1.out with h | ⟨g, o, rfl, hg, hc⟩
      · omega
      have c1 := hc k hkx
      by_cases hky : k < y.length
      · rcases H2.out with h | ⟨g', o', rfl, hg', hc'⟩
        · omega
        have c2 := hc' k hky
        clear hc hc'
        by_cases hs : sc (el x k) (el y k) = 0
        · go_wp2_with (go_at_call 43; refine (cmpS _ _ _).mono ?_; rintro e w' ⟨rfl, rfl⟩; have hs0 := hs)
          go_roundw
          case rel => exact ⟨k + 1, by omega, by omega, by go_num, by rw [HR.out, rc_drop hkx hky, if_pos hs], by trivial⟩
          case measure => simp [intOf]; omega
        · have hn : (sc (el x k) (el y k) != 0) = true := by simpa using hs
          have HN := hid (show rc x y = sc (el x k) (el y k) by rw [HR.out, rc_drop hkx hky, if_neg hs])
          go_wp2_with (go_at_call 43; refine (cmpS _ _ _).mono ?_; rintro e w' ⟨rfl, rfl⟩)
          go_ret
          exact ⟨ret_int HN.out.symm, rfl⟩
      · have HN := hid (show rc x y = 1 by rw [HR.out, rc_end2 hkx (by omega)])
        go_wp2_with fail
        go_ret
        exact ⟨ret_int HN.out.symm, rfl⟩
    · rcases (show k = y.length ∨ k < y.length from by omega) with hq | hq
      · have HN := hid (show rc x y = 0 by rw [HR.out, rc_end0 (by omega) hq])
        go_wp2_with fail
        go_ret
        exact ⟨ret_int HN.out.symm, rfl⟩
      · have HN := hid (show rc x y = -1 by rw [HR.out, rc_end1 (by omega) hq])
        go_wp2_with fail
        go_ret
        exact ⟨ret_int HN.out.symm, rfl⟩
theorem sc_cases (a b : ByteArray) : (sc a b = -1 ∧ Op.bytesLess a.toList b.toList = true) ∨ (sc a b = 0 ∧ Op.bytesLess a.toList b.toList = false ∧ (a.toList == b.toList) = true) ∨ (sc a b = 1 ∧ Op.bytesLess a.toList b.toList = false ∧ (a.toList == b.toList) = false) := by
  unfold sc
  cases Op.bytesLess a.toList b.toList <;> cases (a.toList == b.toList) <;> simp
set_option maxHeartbeats 2000000 in
/-- compareRows (17) -/
theorem cmpRow2 (v1 v2 : Value) (x y : List ByteArray) (w : World) (h1 : RowAt w v1 x) (h2 : RowAt w v2 y) (hx : x.length ≤ 2000000) :
    Calls Tryf.prog 17 #[v1, v2] w fun e w' => e = .returned (.int .i64 (rc x y)) ∧ Below w.heap.size w w' := by
  obtain ⟨a, c, rfl, h1⟩ := h1
  obtain ⟨a', c', rfl, h2⟩ := h2
  have H1 := hid h1
  have H2 := hid h2
  clear h1 h2
  go_enter Tryf.func17, Tryf.ntmps17
  go_wp2_with fail
  go_loopw [5] (fun i wr => ∃ k : Nat, k ≤ x.length ∧ k ≤ y.length ∧ i = .int .i64 k ∧ rc x y = rc (x.drop k) (y.drop k) ∧ Below w.heap.size w wr) (fun i _ => x.length - (intOf i).toNat)
  case atStart => exact ⟨0, Nat.zero_le _, Nat.zero_le _, rfl, by simp, Below.refl _ _⟩
  case round =>
    obtain ⟨k, hk, hk', rfl, hrc, hb⟩ := hrel
    have HR := hid hrc
    clear hrc
    by_cases hkx : k < x.length
    · by_cases hky : k < y.length
      · rcases H1.out with h | ⟨g, o, rfl, hg, hc⟩
        · omega
        have c1 := (hb.cell (p := ⟨g, o + k, none⟩) hg).trans (hc k hkx)
        rcases H2.out with h | ⟨g', o', rfl, hg', hc'⟩
        · omega
        have c2 := (hb.cell (p := ⟨g', o' + k, none⟩) hg').trans (hc' k hky)
        clear hc hc'
        have hd := rc_drop hkx hky
        rcases sc_cases (el x k) (el y k) with ⟨hs, hl⟩ | ⟨hs, hl, he⟩ | ⟨hs, hl, he⟩
        · have HN := hid (show rc x y = -1 by rw [HR.out, hd, hs]; rfl)
          clear hd
          go_wp2_with fail
          go_region
          all_goals
            go_wp2_with fail
            go_ret
            exact ⟨ret_int HN.out.symm, hb.drew⟩
        · have HN := hid (show rc x y = rc (x.drop (k + 1)) (y.drop (k + 1)) by rw [HR.out, hd, if_pos hs])
          clear hd
          go_wp2_with fail
          go_region
          go_wp2_with fail
          go_region
          go_wp2_with fail
          go_roundw
          case rel => exact ⟨k + 1, by omega, by omega, by go_num, HN.out, hb.drew.drew⟩
          case measure => simp [intOf]; omega
        · have HN := hid (show rc x y = 1 by rw [HR.out, hd, hs]; rfl)
          clear hd
          go_wp2_with fail
          go_region
          go_wp2_with fail
          go_region
          go_wp2_with fail
          go_ret
          exact ⟨ret_int HN.out.symm, hb.drew.drew⟩
      · have HN := hid (show rc x y = 1 by rw [HR.out, rc_end2 hkx (by omega)])
        have hyk : y.length ≤ k := by omega
        go_wp2_with fail
        go_ret
        exact ⟨ret_int HN.out.symm, hb⟩
    · rcases (show k = y.length ∨ k < y.length from by omega) with hq | hq
      · have HN := hid (show rc x y = 0 by rw [HR.out, rc_end0 (by omega) hq])
        have hxk : x.length = y.length := by omega
        go_wp2_with fail
        go_ret
        exact ⟨ret_int HN.out.symm, hb⟩
      · have HN := hid (show rc x y = -1 by rw [HR.out, rc_end1 (by omega) hq])
        have hxk : x.length < y.length := by omega
        go_wp2_with fail
        go_ret
        exact ⟨ret_int HN.out.symm, hb⟩
end Go.Proofs.Qxb6614485aFmt
