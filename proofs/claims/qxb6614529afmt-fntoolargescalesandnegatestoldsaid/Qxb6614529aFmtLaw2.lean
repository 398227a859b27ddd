/- The walk of FnTooLargeScalesAndNegates (4), and its card. -/
import Derived.Test.Qxb6614529aFmtWhole
import Derived.Deep.QuietTactic
import Derived.BigQuiet
import Derived.ProofKit
import Derived.Stop.JoinedAt
import Derived.Stop.JoinedTold
import Derived.SizedLaws
import Derived.SevenToldRow
namespace Go.Proofs.Qxb6614529aFmt.Scales
open Go.ChangeShapes Go.WideShapes Go.ChangeAt Go.RowKit Go.Kit
open Go.Extern.Stop Go.Stop Go.Extern
open Go.Lib (decDigits itoa)
theorem wf_of {n : Int} (h0 : -9223372036854775808 ≤ n) (h1 : n ≤ 9223372036854775807) : (Lit.int .i64 n).wf = true := by
  simp [Lit.wf, IntKind.min, IntKind.max, IntKind.signed, IntKind.bits]; omega
theorem itoa_ten {n : Int} (h : 0 < n) : itoa (n * 10) = itoa n ++ [48] := by
  rw [itoa_pos_eq (by omega), itoa_pos_eq (by omega), show (n * 10).natAbs = n.natAbs * 10 by omega]
  exact dd_ten (by omega)
theorem itoa_minus {n : Int} (h : 0 < n) : itoa (-n) = 45 :: itoa n := by
  rw [itoa_pos_eq (n := n) (by omega)]
  unfold itoa
  rw [if_pos (by omega), show (-n).natAbs = n.natAbs by omega]
theorem scale_eq {n : Int} (h : 0 < n) : txt (n * 10) = (txt n).extract 0 (23 + (itoa n).length) ++ ⟨#[48]⟩ ++ (txt n).extract (23 + (itoa n).length) (txt n).size := by
  apply ByteArray.ext
  apply Array.toList_inj.1
  simp only [ByteArray.data_append, Array.toList_append, Go.Lib.extract_data, txt_data, itoa_ten h, txt_size]
  have e : 23 + (itoa n).length = (headL ++ itoa n).length := by rw [List.length_append, headL_len]
  rw [e, List.drop_zero, Nat.sub_zero, List.take_left, List.drop_left]
  rw [List.take_of_length_le (by rw [tailL_len, List.length_append, headL_len]; omega)]
  simp
theorem neg_eq {n : Int} (h : 0 < n) : txt (-n) = (txt n).extract 0 23 ++ ⟨#[45]⟩ ++ (txt n).extract 23 (txt n).size := by
  apply ByteArray.ext
  apply Array.toList_inj.1
  simp only [ByteArray.data_append, Array.toList_append, Go.Lib.extract_data, txt_data, itoa_minus h, txt_size]
  have e : headL ++ itoa n ++ tailL = headL ++ (itoa n ++ tailL) := by simp
  rw [e, show (23 : Nat) = headL.length from headL_len.symm, List.drop_zero, Nat.sub_zero, List.take_left, List.drop_left]
  rw [List.take_of_length_le (by rw [List.length_append, headL_len, tailL_len]; omega)]
  simp
set_option maxHeartbeats 1000000 in
theorem law2 (F : Interp) (n : Int) (w : World) (hF : F.told.answers w.tape) (h0 : 0 < n) (h1 : n ≤ 922337203685477580) :
    Calls Tryf.prog 4 #[.int .i64 n] w fun e w' => e = .returned (.bool true) ∧ Below w.heap.size w w' := by
  have HF : Hid (F.told.answers w.tape) := hF
  have wa := wf_of (n := n) (by omega) (by omega)
  have hla := FmtText.itoa_length_le wa
  have hpa := itoa_len_pos n
  have HWA : Hid ((Lit.int .i64 n).wf = true) := wa
  clear hF wa
  go_enter Tryf.func4, Tryf.ntmps4
  go_wp2_with fail
  refine (zztooLarge_any F n w HF.out HWA.out).mono ?_
  rintro e w1 ⟨rfl, hb1⟩
  go_wp2_with fail
  refine (zztooLarge_any F (n * 10) w1 (by rw [hb1.tape]; exact HF.out) (wf_of (by omega) (by omega))).mono ?_
  rintro e w2 ⟨rfl, hb2⟩
  go_wp2_with fail
  refine (zztooLarge_any F (-n) w2 (by rw [hb2.tape, hb1.tape]; exact HF.out) (wf_of (by omega) (by omega))).mono ?_
  rintro e w3 ⟨rfl, hb3⟩
  go_wp2_with fail
  refine (whole_txt n w3 HWA.out).mono ?_
  rintro e w4 ⟨rfl, hb4⟩
  have hsa := txt_size n
  have Q1 : Hid (txt (n * 10) = (txt n).extract 0 (23 + (itoa n).length) ++ ⟨#[48]⟩ ++ (txt n).extract (23 + (itoa n).length) (txt n).size) := scale_eq h0
  have Q2 : Hid (txt (-n) = (txt n).extract 0 23 ++ ⟨#[45]⟩ ++ (txt n).extract 23 (txt n).size) := neg_eq h0
  generalize txt (n * 10) = st at *
  generalize txt (-n) = sn at *
  generalize txt n = sa at *
  go_wp2_with fail
  refine (numlen_any n _ (by omega) (by omega)).mono ?_
  rintro e w5 ⟨rfl, hb5⟩
  go_wp2_with fail
  have f1 : ∀ w, (Instr.slice 9 (.string sa) none (some (.int .i64 (23 + ((itoa n).length : Int)))) none).run Tryf.prog w = .ok (.string (sa.extract 0 (23 + (itoa n).length))) w := fun w => by
    have := run_slice_string_h (P := Tryf.prog) w 9 sa Tryf.underlying9 .i64 (23 + ((itoa n).length : Int)) (by omega) (by omega)
    rw [this]; congr 2
  have f2 : ∀ w, (Instr.slice 9 (.string sa) (some (.int .i64 (23 + ((itoa n).length : Int)))) none none).run Tryf.prog w = .ok (.string (sa.extract (23 + (itoa n).length) sa.size)) w := fun w => by
    have := run_slice_string_l (P := Tryf.prog) w 9 sa Tryf.underlying9 .i64 (23 + ((itoa n).length : Int)) (by omega) (by omega)
    rw [this]; congr 2
  have f3 : ∀ w, (Instr.slice 9 (.string sa) none (some (.int .i64 23)) none).run Tryf.prog w = .ok (.string (sa.extract 0 23)) w := fun w => by
    have := run_slice_string_h (P := Tryf.prog) w 9 sa Tryf.underlying9 .i64 23 (by omega) (by omega)
    rw [this]; congr 2
  have f4 : ∀ w, (Instr.slice 9 (.string sa) (some (.int .i64 23)) none none).run Tryf.prog w = .ok (.string (sa.extract 23 sa.size)) w := fun w => by
    have := run_slice_string_l (P := Tryf.prog) w 9 sa Tryf.underlying9 .i64 23 (by omega) (by omega)
    rw [this]; congr 2
  have z1 : (sa.extract 0 (23 + (itoa n).length)).size ≤ 200 := by simp; omega
  have z2 : (sa.extract (23 + (itoa n).length) sa.size).size ≤ 200 := by simp; omega
  have z3 : (sa.extract 0 23).size ≤ 200 := by simp; omega
  have z4 : (sa.extract 23 sa.size).size ≤ 200 := by simp; omega
  generalize sa.extract 0 (23 + (itoa n).length) = y1 at *
  generalize sa.extract (23 + (itoa n).length) sa.size = y2 at *
  generalize sa.extract 0 23 = y3 at *
  generalize sa.extract 23 sa.size = y4 at *
  have g1 : ∀ w, (Op.stringOp .add y1 ⟨#[48]⟩).run Tryf.prog w = .ok (.string (y1 ++ ⟨#[48]⟩)) w := fun w => run_string_add_sum w _ _ (by rw [show (⟨#[48]⟩ : ByteArray).size = 1 from rfl]; omega)
  have g2 : ∀ w, (Op.stringOp .add (y1 ++ ⟨#[48]⟩) y2).run Tryf.prog w = .ok (.string (y1 ++ ⟨#[48]⟩ ++ y2)) w := fun w => run_string_add_sum w _ _ (by rw [ByteArray.size_append, show (⟨#[48]⟩ : ByteArray).size = 1 from rfl]; omega)
  have g3 : ∀ w, (Op.stringOp .add y3 ⟨#[45]⟩).run Tryf.prog w = .ok (.string (y3 ++ ⟨#[45]⟩)) w := fun w => run_string_add_sum w _ _ (by rw [show (⟨#[45]⟩ : ByteArray).size = 1 from rfl]; omega)
  have g4 : ∀ w, (Op.stringOp .add (y3 ++ ⟨#[45]⟩) y4).run Tryf.prog w = .ok (.string (y3 ++ ⟨#[45]⟩ ++ y4)) w := fun w => run_string_add_sum w _ _ (by rw [ByteArray.size_append, show (⟨#[45]⟩ : ByteArray).size = 1 from rfl]; omega)
  have q1 : (st.toList == (y1 ++ ⟨#[48]⟩ ++ y2).toList) = true := by rw [Q1.out]; simp
  have q2 : (sn.toList == (y3 ++ ⟨#[45]⟩ ++ y4).toList) = true := by rw [Q2.out]; simp
  go_quiet (fail)
  go_wp2
  go_ret
  have z1 := hb1.size
  have z2 := hb2.size
  have z3 := hb3.size
  have z4 := hb4.size
  exact ⟨rfl, below_drewN ((((hb1.trans (hb2.mono z1)).trans (hb3.mono (by omega))).trans (hb4.mono (by omega))).trans (hb5.mono (by omega))) _⟩
set_option maxHeartbeats 400000 in
theorem law2_out (n : Int) (w : World) (h : n ≤ 0 ∨ 922337203685477580 < n) :
    Calls Tryf.prog 4 #[.int .i64 n] w fun e w' => e = .returned (.bool true) ∧ Below w.heap.size w w' := by
  rcases h with h | h
  · go_enter Tryf.func4, Tryf.ntmps4
    go_wp2
    go_ret
    exact ⟨rfl, Below.refl _ _⟩
  · have h' : ¬ n ≤ 0 := by omega
    go_enter Tryf.func4, Tryf.ntmps4
    go_wp2
    go_ret
    exact ⟨rfl, Below.refl _ _⟩
theorem walk (F : Interp) (n : Int) (w : World) (hF : F.told.answers w.tape) :
    Calls Tryf.prog 4 #[.int .i64 n] w fun e w' => e = .returned (.bool true) ∧ Below w.heap.size w w' := by
  by_cases h : n ≤ 0 ∨ 922337203685477580 < n
  · exact law2_out n w h
  · exact law2 F n w hF (by omega) (by omega)

theorem Tryf.own : ownKnob Tryf.prog.godebug = none := by kernel_rfl
theorem Tryf.laidOut : laidOutB Tryf.pinned.checked.prog = true := by kernel_rfl
theorem Tryf.stops : Tryf.pinned.checked.prog.stops = ["fmt.Sprintf"] := by kernel_rfl
theorem Tryf.stopKnobs : Tryf.pinned.checked.prog.stopKnobs = [] := by kernel_rfl
theorem Tryf.quiet (os : Os) : Stop.quiet Tryf.pinned.checked.prog os := by
  intro k hk
  rw [Tryf.stopKnobs] at hk
  cases hk

set_option maxRecDepth 100000 in
theorem lifted (os : Os) (started : os.Started) (H : Type) (enc : TypeId × Value → H) :
    ReturnsInTold none {} Tryf.checked os 4 .any Input.okWide ((OpenSpec.ofChange Rows.fnTooLargeScalesAndNegatesSpec).preRow enc Tryf.prog Tryf.f4 [] false [])
      (fun F => ((OpenSpec.ofChange Rows.fnTooLargeScalesAndNegatesSpec).at F).post enc Tryf.prog Tryf.f4 false true false false) (aloneAtReturn Tryf.prog) nothingAlways := by
  refine returnsInTold_of_row (C := Tryf.checked) (s := OpenSpec.ofChange Rows.fnTooLargeScalesAndNegatesSpec) (by kernel_rfl) Tryf.own started (by kernel_rfl) Tryf.func4
    (OpenSpec.witness_stopped (enc := enc) (C := Tryf.checked) false ⟨#[], #[.int .i64 1], []⟩ 8 (by kernel_rfl) (by kernel_rfl) (by kernel_rfl) (by kernel_rfl)) ?_
  intro F W base args ds gs before _ hF hval0 hW _ _ hsz _ _
  have hval : ∀ (j : Nat) t v, Tryf.f4.params[j]? = some t → args[j]? = some v → Value.okWide Tryf.prog W .any base t v := hval0
  have hW' := hW
  obtain ⟨p, q, hA0, hV, rfl, hfz, hnd⟩ := hW
  have hA : DataW.TrodAll enc Tryf.prog W 0 (fun _ => true) true Tryf.f4.params.toList args.toList ds p := hA0
  rw [Tryf.params4] at hA hval
  obtain ⟨v0, d0, rfl, rfl, h0⟩ := trodAll_one hA
  obtain ⟨rfl, rfl⟩ := trodVars_none hV
  obtain ⟨a, rfl, rfl, rfl, wa⟩ := open_int Tryf.underlying3 (hval 0 3 v0 rfl rfl) h0
  clear hA0 hval0
  refine (walk F a W hF).mono fun e W' ⟨he, hb⟩ => ?_
  subst he
  exact ⟨_, rfl, _, _, _, [], [], [], hW', trodAll_mk1 (shut_bool Tryf.underlying4 _), trodAll_mk1 (shut_int Tryf.underlying3 wa), rfl, hb.frame _, fun h => by cases h⟩

theorem told : Rows.FnTooLargeScalesAndNegatesToldSaid :=
  Claim7.holds_of_told_any 4 Tryf.f4 "fmt.Sprintf" [] [] _ _ _ (by kernel_rfl) rfl rfl rfl Tryf.laidOut (by kernel_rfl) rfl ⟨rfl, rfl, rfl, rfl, rfl, rfl, rfl⟩ rfl rfl (by kernel_rfl) (by kernel_rfl) Tryf.func4 (by kernel_rfl)
    (of_decide_eq_true (by kernel_rfl)) (by unfold Func.isWrapper; rw [if_neg (of_decide_eq_false (by kernel_rfl))]; exact ⟨rfl, rfl⟩) Tryf.stops.symm rfl Tryf.stopKnobs.symm (by kernel_rfl)
    (by kernel_rfl) (by kernel_rfl) (by kernel_rfl) (by kernel_rfl) (by kernel_rfl) (by kernel_rfl) (by kernel_rfl) (by kernel_rfl) (by kernel_rfl) rfl (by kernel_rfl) rfl rfl
    rfl rfl
    rfl (by kernel_rfl) (by kernel_rfl) (by kernel_rfl) (by decide) (by kernel_rfl)
    (OpenClaim.moreEntering_of (by kernel_rfl) (by kernel_rfl) (by kernel_rfl) (by kernel_rfl) (by kernel_rfl) (by kernel_rfl) (by kernel_rfl) (by kernel_rfl) (by kernel_rfl) (by kernel_rfl))
    ⟨_, WideRow.started_initial, Tryf.quiet _⟩
    (fun os started _ H enc _ => lifted os started H enc)
end Go.Proofs.Qxb6614529aFmt.Scales
