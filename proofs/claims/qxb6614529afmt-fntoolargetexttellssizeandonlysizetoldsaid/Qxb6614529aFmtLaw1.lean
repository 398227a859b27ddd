/- The walk of FnTooLargeTextTellsSizeAndOnlySize (3). -/
import Derived.Test.Qxb6614529aFmtWhole
import Derived.Deep.QuietTactic
import Derived.BigQuiet
import Derived.ProofKit
import Derived.Stop.JoinedAt
import Derived.Stop.JoinedTold
import Derived.SizedLaws
import Derived.SevenToldRow
namespace Go.Proofs.Qxb6614529aFmt
open Go.ChangeShapes Go.WideShapes Go.ChangeAt Go.RowKit Go.Kit
open Go.Extern.Stop Go.Stop Go.Extern
open Go.Lib (decDigits itoa)
theorem parses_same (n : Int) (w : World) (h0 : -9223372036854775808 ≤ n) (h1 : n ≤ 9223372036854775807) :
    Calls Tryf.prog 8 #[.string ⟨(itoa n).toArray⟩, .int .i64 n] w fun e w' => e = .returned (.bool true) ∧ w' = w :=
  (parses_any n w h0 h1).mono fun _ _ h => ⟨h.1, h.2.symm⟩
theorem txt_eq (a b : Int) : ((txt a).toList == (txt b).toList) = (a == b) := by
  rw [Bool.eq_iff_iff]
  simp only [beq_iff_eq]
  constructor
  · intro h
    rw [Go.Lib.toList_data, Go.Lib.toList_data, txt_data, txt_data] at h
    have h1 := List.append_cancel_right h
    exact itoa_inj (List.append_cancel_left h1)
  · rintro rfl; rfl
theorem txt_after (n : Int) (k : Nat) (hk : k = 23 + (itoa n).length) : ((txt n).extract k (txt n).size).toList = tailL := by
  rw [Go.Lib.extract_toList, txt_data, txt_size, hk]
  have e : 23 + (itoa n).length = (headL ++ itoa n).length := by rw [List.length_append, headL_len]
  rw [e, List.drop_left]
  apply List.take_of_length_le
  rw [tailL_len, List.length_append, headL_len]; omega
set_option maxHeartbeats 1000000 in
theorem law1 (F : Interp) (a b : Int) (w : World) (hF : F.told.answers w.tape) (wa : (Lit.int .i64 a).wf = true) (wb : (Lit.int .i64 b).wf = true) :
    Calls Tryf.prog 3 #[.int .i64 a, .int .i64 b] w fun e w' => e = .returned (.bool true) ∧ Below w.heap.size w w' := by
  have HF : Hid (F.told.answers w.tape) := hF
  have hba := bounds_i64 wa
  have hbb := bounds_i64 wb
  have hla := FmtText.itoa_length_le wa
  have hlb := FmtText.itoa_length_le wb
  have hpa := itoa_len_pos a
  have hpb := itoa_len_pos b
  have HWA : Hid ((Lit.int .i64 a).wf = true) := wa
  have HWB : Hid ((Lit.int .i64 b).wf = true) := wb
  clear hF wa wb
  go_enter Tryf.func3, Tryf.ntmps3
  go_wp2_with fail
  refine (zztooLarge_any F a w HF.out HWA.out).mono ?_
  rintro e w1 ⟨rfl, hb1⟩
  go_wp2_with fail
  refine (zztooLarge_any F b w1 (by rw [hb1.tape]; exact HF.out) HWB.out).mono ?_
  rintro e w2 ⟨rfl, hb2⟩
  go_wp2_with fail
  refine (whole_txt a w2 HWA.out).mono ?_
  rintro e w3 ⟨rfl, hb3⟩
  have hq := txt_eq a b
  have hsa := txt_size a
  have hsb := txt_size b
  have ha0 := txt_head a
  have hb0 := txt_head b
  have HA1 : Hid (∀ k, k = 23 + (itoa a).length → ((txt a).extract k (txt a).size).toList = tailL) := txt_after a
  have HB1 : Hid (∀ k, k = 23 + (itoa b).length → ((txt b).extract k (txt b).size).toList = tailL) := txt_after b
  have HB2 : Hid (∀ k, k = 23 + (itoa b).length → (txt b).extract 23 k = ⟨(itoa b).toArray⟩) := txt_num b
  generalize txt a = sa at *
  generalize txt b = sb at *
  go_wp2_with fail
  refine (numlen_any a _ hba.1 hba.2).mono ?_
  rintro e w4 ⟨rfl, hb4⟩
  go_wp2_with fail
  refine (numlen_any b _ hbb.1 hbb.2).mono ?_
  rintro e w5 ⟨rfl, hb5⟩
  go_wp2_with fail
  have ka := HA1.out _ rfl
  have kb := HB1.out _ rfl
  have kc := HB2.out _ rfl
  rw [hsa] at ka
  rw [hsb] at kb
  go_quiet ((go_at_call 8; exact Calls.quiet_of_same (parses_same b _ hbb.1 hbb.2)))
  go_wp2
  go_ret
  have z1 := hb1.size
  have z2 := hb2.size
  have z3 := hb3.size
  have z4 := hb4.size
  exact ⟨rfl, below_drewN ((((hb1.trans (hb2.mono z1)).trans (hb3.mono (by omega))).trans (hb4.mono (by omega))).trans (hb5.mono (by omega))) _⟩

theorem Tryf.own : ownKnob Tryf.prog.godebug = none := by kernel_rfl
theorem Tryf.laidOut : laidOutB Tryf.pinned.checked.prog = true := by kernel_rfl
theorem Tryf.stops : Tryf.pinned.checked.prog.stops = ["fmt.Sprintf"] := by kernel_rfl
theorem Tryf.stopKnobs : Tryf.pinned.checked.prog.stopKnobs = [] := by kernel_rfl
theorem Tryf.quiet (os : Os) : Stop.quiet Tryf.pinned.checked.prog os := by
  intro k hk
  rw [Tryf.stopKnobs] at hk
  cases hk

set_option maxRecDepth 100000 in
theorem lifted1 (os : Os) (started : os.Started) (H : Type) (enc : TypeId × Value → H) :
    ReturnsInTold none {} Tryf.checked os 3 .any Input.okWide ((OpenSpec.ofChange Rows.fnTooLargeTextTellsSizeAndOnlySizeSpec).preRow enc Tryf.prog Tryf.f3 [] false [])
      (fun F => ((OpenSpec.ofChange Rows.fnTooLargeTextTellsSizeAndOnlySizeSpec).at F).post enc Tryf.prog Tryf.f3 false true false false) (aloneAtReturn Tryf.prog) nothingAlways := by
  refine returnsInTold_of_row (C := Tryf.checked) (s := OpenSpec.ofChange Rows.fnTooLargeTextTellsSizeAndOnlySizeSpec) (by kernel_rfl) Tryf.own started (by kernel_rfl) Tryf.func3
    (OpenSpec.witness_stopped (enc := enc) (C := Tryf.checked) false ⟨#[], #[.int .i64 1, .int .i64 1], []⟩ 8 (by kernel_rfl) (by kernel_rfl) (by kernel_rfl) (by kernel_rfl)) ?_
  intro F W base args ds gs before _ hF hval0 hW _ _ hsz _ _
  have hval : ∀ (j : Nat) t v, Tryf.f3.params[j]? = some t → args[j]? = some v → Value.okWide Tryf.prog W .any base t v := hval0
  have hW' := hW
  obtain ⟨p, q, hA0, hV, rfl, hfz, hnd⟩ := hW
  have hA : DataW.TrodAll enc Tryf.prog W 0 (fun _ => true) true Tryf.f3.params.toList args.toList ds p := hA0
  rw [Tryf.params3] at hA hval
  obtain ⟨v0, v1, d0, d1, p0, p1, rfl, rfl, rfl, h0, h1⟩ := trodAll_two hA
  obtain ⟨rfl, rfl⟩ := trodVars_none hV
  obtain ⟨a, rfl, rfl, rfl, wa⟩ := open_int Tryf.underlying3 (hval 0 3 v0 rfl rfl) h0
  obtain ⟨b, rfl, rfl, rfl, wb⟩ := open_int Tryf.underlying3 (hval 1 3 v1 rfl rfl) h1
  clear hA0 hval0
  refine (law1 F a b W hF wa wb).mono fun e W' ⟨he, hb⟩ => ?_
  subst he
  exact ⟨_, rfl, _, _, _, [], [], [], hW', trodAll_mk1 (shut_bool Tryf.underlying4 _), trodAll_mk2 (shut_int Tryf.underlying3 wa) (shut_int Tryf.underlying3 wb), rfl, hb.frame _, fun h => by cases h⟩

theorem told1 : Rows.FnTooLargeTextTellsSizeAndOnlySizeToldSaid :=
  Claim7.holds_of_told_any 3 Tryf.f3 "fmt.Sprintf" [] [] _ _ _ (by kernel_rfl) rfl rfl rfl Tryf.laidOut (by kernel_rfl) rfl ⟨rfl, rfl, rfl, rfl, rfl, rfl, rfl⟩ rfl rfl (by kernel_rfl) (by kernel_rfl) Tryf.func3 (by kernel_rfl)
    (of_decide_eq_true (by kernel_rfl)) (by unfold Func.isWrapper; rw [if_neg (of_decide_eq_false (by kernel_rfl))]; exact ⟨rfl, rfl⟩) Tryf.stops.symm rfl Tryf.stopKnobs.symm (by kernel_rfl)
    (by kernel_rfl) (by kernel_rfl) (by kernel_rfl) (by kernel_rfl) (by kernel_rfl) (by kernel_rfl) (by kernel_rfl) (by kernel_rfl) (by kernel_rfl) rfl (by kernel_rfl) rfl rfl
    rfl rfl
    rfl (by kernel_rfl) (by kernel_rfl) (by kernel_rfl) (by decide) (by kernel_rfl)
    (OpenClaim.moreEntering_of (by kernel_rfl) (by kernel_rfl) (by kernel_rfl) (by kernel_rfl) (by kernel_rfl) (by kernel_rfl) (by kernel_rfl) (by kernel_rfl) (by kernel_rfl) (by kernel_rfl))
    ⟨_, WideRow.started_initial, Tryf.quiet _⟩
    (fun os started _ H enc _ => lifted1 os started H enc)
end Go.Proofs.Qxb6614529aFmt
