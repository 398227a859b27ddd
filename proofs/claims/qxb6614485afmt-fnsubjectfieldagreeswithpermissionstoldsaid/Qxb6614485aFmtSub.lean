/- firstIndex (7), subjectField (12) and ZZSubjectField (9) where there is a sub field. -/
import Derived.Test.Qxb6614485aFmtNew
namespace Go.Proofs.Qxb6614485aFmt
open Go.RowKit
set_option maxHeartbeats 1000000 in
theorem first_any (v : Value) (ss : List ByteArray) (s : ByteArray) (w : World) (h : RowAt w v ss) (hl : ss.length ≤ 2000000) :
    Calls Tryf.prog 7 #[v, .string s] w fun e w' => ∃ r : Int, e = .returned (.int .i64 r) ∧ (r = -1 ∨ (0 ≤ r ∧ r < ss.length)) ∧ w = w' := by
  obtain ⟨a, c, rfl, h⟩ := h
  have H := hid h
  clear h
  go_enter Tryf.func7, Tryf.ntmps7
  go_wp2_with fail
  go_loopw [5] (fun i wr => ∃ k : Nat, k ≤ ss.length ∧ i = .int .i64 k ∧ w = wr) (fun i _ => ss.length - (intOf i).toNat)
  case atStart => exact ⟨0, Nat.zero_le _, rfl, rfl⟩
  case round =>
    obtain ⟨k, hk, rfl, rfl⟩ := hrel
    by_cases hkn : k < ss.length
    · rcases H.out with h | ⟨g, o, rfl, hg, hc⟩
      · omega
      have c1 := hc k hkn
      clear hc
      generalize el ss k = x at c1
      cases hq : (x.toList == s.toList)
      · go_wp2_with fail
        go_roundw
        case rel => exact ⟨k + 1, by omega, by go_num, by trivial⟩
        case measure => simp [intOf]; omega
      · go_wp2_with fail
        go_ret
        exact ⟨_, rfl, .inr ⟨by omega, by omega⟩, rfl⟩
    · go_wp2_with fail
      go_ret
      exact ⟨_, rfl, .inl rfl, rfl⟩
theorem Enf.cells {w : World} {E Mo Po mT mR : Nat} {vF vR : Value} {sub rc : Int} (h : Enf w E Mo Po mT mR vF vR sub rc) :
    w.cell? ⟨E, 0, none⟩ = some (.pointer (some ⟨Mo, 0, none⟩)) ∧ w.cell? ⟨E, 1, none⟩ = some (.int .i32 0) ∧ w.cell? ⟨E, 3, none⟩ = some (.int .u32 0) ∧ w.cell? ⟨E, 4, none⟩ = some (.int .u32 0) ∧ w.cell? ⟨E, 5, none⟩ = some (.int .i32 rc) ∧ w.frozen? ⟨E, 5, none⟩ = false ∧ w.cell? ⟨E, 7, none⟩ = some (.pointer (some ⟨Po, 0, none⟩)) ∧
    w.cell? ⟨Mo, 1, none⟩ = some (.map (some mT)) ∧ w.cell? ⟨Mo, 5, none⟩ = some (.int .i64 sub) ∧ w.cell? ⟨Po, 0, none⟩ = some (.map (some mR)) := by
  obtain ⟨o, r, eft, hm⟩ := h.mo
  refine ⟨?_, ?_, ?_, ?_, ?_, frozen_of_row _ _ _ _ _ h.e, ?_, ?_, ?_, ?_⟩
  all_goals first
    | (rw [cell_of_row w _ _ _ 69 (0, 0) h.e]; rfl)
    | (rw [cell_of_row w _ _ _ 43 (0, 0) hm]; rfl)
    | (rw [cell_of_row w _ _ _ 55 (0, 0) h.po]; rfl)
set_option maxHeartbeats 1000000 in
theorem sub_yes (w : World) (E Mo Po mT mR : Nat) (vF vR : Value) (sub rc : Int) (h : Enf w E Mo Po mT mR vF vR sub rc) (hs : 0 ≤ sub) :
    Calls Tryf.prog 12 #[.pointer (some ⟨E, 0, none⟩)] w fun e w' => e = .returned (.tuple #[.int .i64 sub, .nilIface]) ∧ w = w' := by
  obtain ⟨c0, _, _, _, _, _, _, _, c5, _⟩ := h.cells
  clear h
  go_enter Tryf.func12, Tryf.ntmps12
  go_wp2_with fail
  go_ret2
  exact ⟨rfl, rfl⟩
set_option maxHeartbeats 1000000 in
theorem zsub_yes (w : World) (E Mo Po mT mR : Nat) (vF vR : Value) (sub rc : Int) (h : Enf w E Mo Po mT mR vF vR sub rc) (hs : 0 ≤ sub) :
    Calls Tryf.prog 9 #[.pointer (some ⟨E, 0, none⟩)] w fun e w' => e = .returned (.tuple #[.int .i64 sub, .nilIface]) ∧ w = w' := by
  have H := hid h
  clear h
  go_enter Tryf.func9, Tryf.ntmps9
  go_wp2_with (go_at_call 12; refine (sub_yes _ E Mo Po mT mR vF vR sub rc H.out hs).mono ?_; rintro e w' ⟨rfl, rfl⟩)
  go_ret2
  exact ⟨rfl, rfl⟩
end Go.Proofs.Qxb6614485aFmt
