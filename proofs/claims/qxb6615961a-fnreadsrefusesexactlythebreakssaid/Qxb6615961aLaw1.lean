/- A proof of 'Rows.FnReadsRefusesExactlyTheBreaksSaid'. The frame (own, lifted, over) is the seat's given shell; the walks are mine. -/
import Derived.Test.Qxb6615961aCalls
import Derived.WalkKit
import Derived.ProofKit
import Derived.OpenShut
import Derived.ShutString
namespace Go.Proofs.Qxb6615961a.fnReadsRefusesExactlyTheBreaks
open Go.ChangeShapes Go.WideShapes Go.ChangeAt Go.RowKit
open Go.ChangeMaps (open_string shut_string)
set_option linter.unusedVariables false      -- a walk need not use every 'w<i>' (that an integer argument fits its kind)

theorem own : ownKnob Try.prog.godebug = none := by kernel_rfl

/-! ### THE WALK: the Go text returns true -/
theorem grown_one (w : World) (o : Array Value) : Grown w (w.alloc (.cells o 5)) := by
  repeat (first | exact Grown.refl _ | apply Grown.drew | apply Grown.alloc)

/-- the law's tail, once the break's length is known -/
theorem b_two (r : Int) (h0 : 128 ≤ r) (h1 : r < 2048) (h : ¬ r = 133) : brk3 2 (192 + r / 64) (128 + r % 64) 0 = 0 := by
  unfold brk3
  repeat' split
  all_goals omega
theorem b_three (r : Int) (h0 : 2048 ≤ r) (h1 : r < 65536) (h : ¬ r = 8232) (h' : ¬ r = 8233) : brk3 3 (224 + r / 4096) (128 + r / 64 % 64) (128 + r % 64) = 0 := by
  unfold brk3
  repeat' split
  all_goals omega
theorem b_four (r : Int) (h0 : 65536 ≤ r) (h1 : r ≤ 1114111) : brk3 4 (240 + r / 262144) (128 + r / 4096 % 64) (128 + r / 64 % 64) = 0 := by
  unfold brk3
  repeat' split
  all_goals omega

set_option maxHeartbeats 1000000 in
theorem walk_two (r : Int) (w : World) (h0 : 128 ≤ r) (h1 : r < 2048) (hne : ¬ r = 133) :
    Calls Try.prog 3 #[.int .i32 r] w fun e w' => e = .returned (.bool true) ∧ Grown w w' := by
  have hb := b_two r h0 h1 hne
  have hr : readsB r = decide (160 ≤ r) := by
    unfold readsB; rw [Bool.eq_iff_iff]; simp; omega
  go_enter Try.func3, Try.ntmps3
  go_wp2_with fail
  refine (enc_two r _ h0 h1).mono ?_
  rintro e w' ⟨rfl, rfl⟩
  go_wp2_with fail
  refine (zzbreak_head w.heap.size 2 2 (192 + r / 64) (128 + r % 64) 0 _ (by omega) (by omega) (by simp) (by simp) (by simp)).mono ?_
  rintro e w' ⟨rfl, rfl⟩
  rw [hb]
  clear hb
  by_cases h3 : 160 ≤ r
  all_goals
    go_wp2_with (go_at_call 7; refine (reads_any _ _).mono ?_; rintro e w' ⟨rfl, rfl⟩)
    go_ret
    refine ⟨ret_bool ?_, grown_one _ _⟩
    simp
    omega

set_option maxHeartbeats 1000000 in
theorem walk_nel (w : World) :
    Calls Try.prog 3 #[.int .i32 133] w fun e w' => e = .returned (.bool true) ∧ Grown w w' := by
  have hr : readsB 133 = false := by decide
  go_enter Try.func3, Try.ntmps3
  go_wp2_with fail
  refine (enc_two 133 _ (by omega) (by omega)).mono ?_
  rintro e w' ⟨rfl, rfl⟩
  go_wp2_with fail
  refine (zzbreak_head w.heap.size 2 2 194 133 0 _ (by omega) (by omega) (by simp) (by simp) (by simp)).mono ?_
  rintro e w' ⟨rfl, rfl⟩
  rw [show brk3 2 194 133 0 = 2 from by decide]
  go_wp2_with (go_at_call 7; refine (reads_any _ _).mono ?_; rintro e w' ⟨rfl, rfl⟩)
  go_ret
  exact ⟨rfl, grown_one _ _⟩

set_option maxHeartbeats 1000000 in
theorem walk_three (r : Int) (w : World) (h0 : 2048 ≤ r) (h1 : r < 65536) (hne : ¬ r = 8232) (hne' : ¬ r = 8233) :
    Calls Try.prog 3 #[.int .i32 r] w fun e w' => e = .returned (.bool true) ∧ Grown w w' := by
  have hb := b_three r h0 h1 hne hne'
  have hr : readsB r = (r != 65534 && r != 65535) := by
    unfold readsB; rw [Bool.eq_iff_iff]; simp; omega
  go_enter Try.func3, Try.ntmps3
  go_wp2_with fail
  refine (enc_three r _ h0 h1).mono ?_
  rintro e w' ⟨rfl, rfl⟩
  go_wp2_with fail
  refine (zzbreak_head w.heap.size 3 3 (224 + r / 4096) (128 + r / 64 % 64) (128 + r % 64) _ (by omega) (by omega) (by simp) (by simp) (by simp)).mono ?_
  rintro e w' ⟨rfl, rfl⟩
  rw [hb]
  clear hb
  have h3 : 160 ≤ r := by omega
  go_wp2_with (go_at_call 7; refine (reads_any _ _).mono ?_; rintro e w' ⟨rfl, rfl⟩)
  all_goals
    go_ret
    refine ⟨ret_bool ?_, grown_one _ _⟩
    simp

set_option maxHeartbeats 1000000 in
theorem walk_sep (r : Int) (w : World) (h : r = 8232 ∨ r = 8233) :
    Calls Try.prog 3 #[.int .i32 r] w fun e w' => e = .returned (.bool true) ∧ Grown w w' := by
  have hb : brk3 3 (224 + r / 4096) (128 + r / 64 % 64) (128 + r % 64) = 3 := by
    rcases h with rfl | rfl <;> decide
  have hr : readsB r = false := by
    rcases h with rfl | rfl <;> decide
  have h0 : 8232 ≤ r := by omega
  have h1 : r ≤ 8233 := by omega
  clear h
  go_enter Try.func3, Try.ntmps3
  go_wp2_with fail
  refine (enc_three r _ (by omega) (by omega)).mono ?_
  rintro e w' ⟨rfl, rfl⟩
  go_wp2_with fail
  refine (zzbreak_head w.heap.size 3 3 (224 + r / 4096) (128 + r / 64 % 64) (128 + r % 64) _ (by omega) (by omega) (by simp) (by simp) (by simp)).mono ?_
  rintro e w' ⟨rfl, rfl⟩
  rw [hb]
  clear hb
  go_wp2_with (go_at_call 7; refine (reads_any _ _).mono ?_; rintro e w' ⟨rfl, rfl⟩)
  all_goals
    go_ret
    refine ⟨ret_bool ?_, grown_one _ _⟩
    simp

set_option maxHeartbeats 1000000 in
theorem walk_four (r : Int) (w : World) (h0 : 65536 ≤ r) (h1 : r ≤ 1114111) :
    Calls Try.prog 3 #[.int .i32 r] w fun e w' => e = .returned (.bool true) ∧ Grown w w' := by
  have hb := b_four r h0 h1
  have hr : readsB r = true := by
    unfold readsB; simp; omega
  go_enter Try.func3, Try.ntmps3
  go_wp2_with fail
  refine (enc_four r _ h0 h1).mono ?_
  rintro e w' ⟨rfl, rfl⟩
  go_wp2_with fail
  refine (zzbreak_head w.heap.size 4 4 (240 + r / 262144) (128 + r / 4096 % 64) (128 + r / 64 % 64) _ (by omega) (by omega) (by simp) (by simp) (by simp)).mono ?_
  rintro e w' ⟨rfl, rfl⟩
  rw [hb]
  clear hb
  go_wp2_with (go_at_call 7; refine (reads_any _ _).mono ?_; rintro e w' ⟨rfl, rfl⟩)
  all_goals
    go_ret
    refine ⟨ret_bool ?_, grown_one _ _⟩
    simp
    omega

theorem walk (a0 : Int) (w0 : (Lit.int .i32 a0).wf = true) (w : World) :
    Calls Try.prog 3 #[.int .i32 a0] w fun e w' => e = .returned (.bool true) ∧ Grown w w' := by
  by_cases h0 : a0 < 128
  · go_enter Try.func3, Try.ntmps3
    go_wp2
    go_ret
    exact ⟨rfl, Grown.refl _⟩
  by_cases h1 : 1114111 < a0
  · go_enter Try.func3, Try.ntmps3
    go_wp2
    go_ret
    exact ⟨rfl, Grown.refl _⟩
  by_cases h2 : a0 < 2048
  · by_cases h3 : a0 = 133
    · subst h3; exact walk_nel w
    · exact walk_two a0 w (by omega) h2 h3
  by_cases h4 : a0 < 65536
  · by_cases h5 : a0 = 8232 ∨ a0 = 8233
    · exact walk_sep a0 w h5
    · exact walk_three a0 w (by omega) h4 (by omega) (by omega)
  · exact walk_four a0 w (by omega) (by omega)

/-! ### THE ROW's STEP: WRITTEN OUT: LEAVE IT -/
set_option maxRecDepth 100000 in
theorem lifted (os : Os) (started : os.Started) (H : Type) (enc : TypeId × Value → H) :
    ReturnsInHanded {} Try.checked os 3 .any (Rows.fnReadsRefusesExactlyTheBreaksSpec.pre6 enc Try.prog Try.f3 Rows.fnReadsRefusesExactlyTheBreaksRow.domain false) (Rows.fnReadsRefusesExactlyTheBreaksSpec.post enc Try.prog Try.f3 false true false false) := by
  refine returnsInHanded_of_change (C := Try.checked) own started (by kernel_rfl) Try.func3
    (ChangeSpec.witness6 (enc := enc) (C := Try.checked) false ⟨#[], #[.int .i32 0], []⟩ 8 (by kernel_rfl) (by kernel_rfl) (by kernel_rfl) (by kernel_rfl)) ?_
  intro W base args ds gs before hval0 hW hcnd _
  have hval : ∀ (j : Nat) t v, Try.f3.params[j]? = some t → args[j]? = some v → Value.okWide Try.prog W .any base t v := hval0
  have hW' := hW
  obtain ⟨p, q, hA0, hV, rfl, hfz, hnd⟩ := hW
  have hA : DataW.TrodAll enc Try.prog W 0 (fun _ => true) true Try.f3.params.toList args.toList ds p := hA0
  rw [Try.params3] at hA hval
  obtain ⟨v0, vs0, d0, ds0, p0, q0, hargs, rfl, rfl, h0, r0⟩ := trodAll_cons hA
  obtain ⟨rfl, rfl, rfl⟩ := trodAll_nil r0
  obtain rfl : args = #[v0] := by cases args; simp_all
  obtain ⟨rfl, rfl⟩ := trodVars_none hV
  obtain ⟨a0, rfl, rfl, rfl, w0⟩ := open_int Try.underlying21 (hval 0 21 v0 rfl rfl) h0
  clear hA0 hval0
  simp only [List.append_nil] at hW'
  refine (walk a0 w0 W).mono fun e W' ⟨he, hg⟩ => ?_
  subst he
  exact ⟨_, rfl, post_of_same (pa := []) (pv := []) hW' (fun _ _ _ => (trodAll_cons_mk (shut_bool Try.underlying4 _) trodAll_mk0)) (fun sp _ => (trodAll_cons_mk (shut_int Try.underlying21 w0) trodAll_mk0)) (fun _ _ => rfl) rfl
    (hg.frame _) hg.2.1 (ok_one (by kernel_rfl) rfl (okWide_bool_mk Try.underlying4 _))⟩

theorem over : Rows.fnReadsRefusesExactlyTheBreaksRow.holds Try.pinned (OpenSpec.ofChange Rows.fnReadsRefusesExactlyTheBreaksSpec) :=
  OpenClaim.holds_of_wide 3 Try.f3 rfl rfl rfl rfl rfl rfl rfl ⟨rfl, rfl, rfl, rfl, rfl⟩ rfl rfl rfl rfl rfl (by kernel_rfl) Try.func3 (by kernel_rfl)
    (of_decide_eq_true (by kernel_rfl)) (by unfold Func.isWrapper; first | (rw [if_pos (by decide +kernel)]; kernel_rfl) | (rw [if_neg (by decide +kernel)]; exact ⟨rfl, rfl⟩))
    (fun os started H enc _ => lifted os started H enc)

/-- ████ THE STATEMENT ████ -/
theorem proved : Rows.FnReadsRefusesExactlyTheBreaksSaid :=
  over
end Go.Proofs.Qxb6615961a.fnReadsRefusesExactlyTheBreaks
