/- The main function (3). -/
import Derived.Test.Qxb6614691aFmtMain0
import Derived.Deep.DeepCutAuto
import Derived.BigRegion
namespace Go.Proofs.Qxb6614691aFmt
open Go.RowKit
theorem byt_left {a b : ByteArray} {j : Nat} (h : j < a.size) : byt (a ++ b) j = byt a j := by
  have h' : j < a.data.toList.length := h
  unfold byt
  rw [show (a ++ b).data = a.data ++ b.data from ByteArray.data_append, Array.toList_append, List.getD, List.getElem?_append_left h']
  rfl
theorem longer_facts {s t : ByteArray} (h : s.size = 55) (ht : t.size ≤ 65536) : (∀ j, j < 55 → byt (s ++ ⟨#[45]⟩ ++ t) j = byt s j) ∧ byt (s ++ ⟨#[45]⟩ ++ t) 55 = 45 ∧ 56 ≤ (s ++ ⟨#[45]⟩ ++ t).size ∧ (s ++ ⟨#[45]⟩ ++ t).size ≤ 200000 := by
  have h1 : (s ++ ⟨#[45]⟩).size = 56 := by rw [ByteArray.size_append', h]; rfl
  refine ⟨fun j hj => ?_, ?_, ?_, ?_⟩
  · rw [byt_left (by omega), byt_left (by omega)]
  · rw [byt_left (by omega)]
    unfold byt
    have h' : s.data.toList.length = 55 := h
    rw [show (s ++ ⟨#[45]⟩).data = s.data ++ #[45] from ByteArray.data_append]
    simp [List.getD, h']
  · rw [ByteArray.size_append', h1]; omega
  · rw [ByteArray.size_append', h1]; omega
set_option maxHeartbeats 4000000 in
set_option maxRecDepth 100000 in
theorem main_yes (s t : ByteArray) (w : World) (hs : s.size ≤ 65536) (ht : t.size ≤ 65536) (hv : Valid s) :
    Calls Tryf.prog 3 #[.string s, .string t] w fun e w' => e = .returned (.bool true) ∧ Below w.heap.size w w' := by
  have HV : Hid (Valid s) := hv
  have HT : Hid ((trL s).toArray.all (·.oneCell') = true) := by simp [Hid, trL]; intros; rfl
  have HS : Hid ((spL s).toArray.all (·.oneCell') = true) := by simp [Hid, spL]; intros; rfl
  have ht16 : (trL s).toArray.size = 16 := by simp [trL]
  have hs8 : (spL s).toArray.size = 8 := by simp [spL]
  clear hv
  go_enter Tryf.func3, Tryf.ntmps3
  go_wp2_with (go_at_call 4; refine (bytes_any s t _ hs ht).mono ?_; rintro e w' ⟨rfl, rfl⟩)
  refine (model_yes s _ (by omega) HV.out).mono ?_
  rintro e w1 ⟨rfl, hb1⟩
  rw [show flV s = .int .u8 (bits .and .u8 (pair s 53) 3) from rfl]
  go_wp2_with (first
    | (refine wpList_store_blk rfl 23 (.tmp 7) (.tmp 30) rfl w1.heap.size (trL s).toArray rfl rfl 23 zero16 (by rw [Below.heap_alloc _ _ _ (by simp)]; exact heap_alloc_new _ _) (by rw [Tryf.size23', ht16]) (by rw [ht16]; rfl) HT.out ?_; intro w2 hb2 hg2)
    | (refine wpList_store_blk rfl 25 (.tmp 8) (.tmp 31) rfl (w1.heap.size + 1) (spL s).toArray rfl rfl 25 zero8 (by rw [hg2.block _ (by simp) (by simp)]; have h := heap_alloc_new (w1.alloc (.cells zero16 23)) (.cells zero8 25); simp only [World.size_alloc] at h; exact h) (by rw [Tryf.size25', hs8]) (by rw [hs8]; rfl) HS.out ?_; intro w3 hb3 hg3; have hJ := lay_two hb1 hb2 hg2 hb3 hg3; have HJ : Hid (J w w3 w1.heap.size (trL s).toArray (spL s).toArray) := hJ; clear hJ hb1 hb2 hg2 hb3 hg3))
  refine (top_yes s _ (by omega) HV.out).mono ?_
  rintro e w4 ⟨rfl, hb4⟩
  have hn24 := fun w => neq24 w (trL s).toArray (trL_ints s)
  have hn26 := fun w => neq26 w (spL s).toArray (spL_ints s)
  go_wp2_with (first
    | (refine wpList_store_blk rfl 31 (.tmp 10) (.tmp 36) rfl w4.heap.size (ctxOf s) rfl rfl 31 zeroCtx (heap_alloc_new _ _) (by rw [Tryf.size31, ctx_size]) (by rw [ctx_size]; rfl) (ctx_one s) ?_; intro w5 hb5 hg5; have hJ := lay_ctx HJ.out hb4 hb5 hg5; have HJ2 : Hid (J2 w w5 w1.heap.size w4.heap.size (trL s).toArray (spL s).toArray (ctxOf s)) := hJ; clear hJ HJ hb4 hb5 hg5; obtain ⟨k1, k2, k3, k4, k5⟩ := ctx_parts HJ2.out.ctx; have K1 : Hid (w5.rangeAt w4.heap.size 0 (trL s)) := k1; have K2 : Hid (w5.rangeAt w4.heap.size 16 (spL s)) := k2; have K4 : Hid (w5.rangeAt w4.heap.size 25 [.string ⟨#[]⟩]) := k4; clear k1 k2 k4)
    | (refine wpList_mid_w rfl 24 (.tmp 41) rfl w4.heap.size 0 rfl (trL s) _ K1.out Tryf.underlying24 rfl (by rw [Tryf.size24']; simp [trL]) ?_)
    | (refine wpList_row_w rfl 23 (.tmp 7) rfl w1.heap.size rfl 23 (trL s).toArray (0, 0) _ HJ2.out.tr Tryf.underlying23 rfl (by rw [Tryf.size23', ht16]) ?_)
    | (refine wpList_mid_w rfl 26 (.tmp 46) rfl w4.heap.size 16 rfl (spL s) _ K2.out Tryf.underlying26 rfl (by rw [Tryf.size26']; simp [spL]) ?_)
    | (refine wpList_row_w rfl 25 (.tmp 8) rfl (w1.heap.size + 1) rfl 25 (spL s).toArray (0, 0) _ HJ2.out.sp Tryf.underlying25 rfl (by rw [Tryf.size25', hs8]) ?_)
    | (refine wpList_mid_w rfl 29 (.tmp 62) rfl w4.heap.size 25 rfl [.string ⟨#[]⟩] _ K4.out Tryf.underlying29 rfl (by rw [Tryf.size29']; rfl) ?_))
  refine (tstate _).mono ?_
  rintro e w6 ⟨rfl, hb6⟩
  have HJ3 : Hid (J2 w w6 w1.heap.size w4.heap.size (trL s).toArray (spL s).toArray (ctxOf s)) := HJ2.out.keep hb6
  clear HJ2 hb6 k3 k5 K1 K2 K4 hn24 hn26
  by_cases h55 : s.size = 55
  · have hl55 : ((s.size : Int) != 55) = false := by simp [h55]
    have ha1 := fun w => run_string_add_sum (P := Tryf.prog) w s ⟨#[45]⟩ (by rw [h55]; decide)
    have ha2 := fun w => run_string_add_sum (P := Tryf.prog) w (s ++ ⟨#[45]⟩) t (by rw [ByteArray.size_append', h55, show (ByteArray.mk #[45]).size = 1 from rfl]; omega)
    have H55 : Hid (s.size = 55) := h55
    clear h55
    go_wp2_with fail
    obtain ⟨u1, u2, u3, u4⟩ := longer_facts (t := t) H55.out ht
    have hx0 := idx s 0 0 rfl (by have := H55.out; omega)
    have hx1 := idx s 1 1 rfl (by have := H55.out; omega)
    have hvu := valid_longer H55.out u3 u1 u2
    have hcu := ctx_longer u1
    clear u1 u2 u3 ha1 ha2
    by_cases hz : byt s 0 = 48 ∧ byt s 1 = 48
    · have hq0 : (byt s 0 == 48) = true := by simp [hz.1]
      have hq1 : (byt s 1 == 48) = true := by simp [hz.2]
      have hno : ¬ Valid (s ++ ⟨#[45]⟩ ++ t) := fun h => (hvu.1 h).2 hz
      refine (top_no _ _ u4 hno).mono ?_
      rintro e w7 ⟨ty, ad, rfl, hb7⟩
      clear hno hvu hcu hz u4
      have he := fun w => eql31 w zeroCtx zero_shape
      go_wp2_with (first
        | (refine wpList_store_blk rfl 31 (.tmp 12) (.tmp 83) rfl w7.heap.size zeroCtx rfl rfl 31 zeroCtx (heap_alloc_new _ _) Tryf.size31 rfl zeroCtx_one ?_; intro w8 hb8 hg8; have hJ := lay_two_ctx HJ3.out hb7 hb8 hg8; have HJ4 : Hid (J3 w w8 w4.heap.size w7.heap.size (ctxOf s) zeroCtx) := hJ; clear hJ HJ3 hb7 hb8 hg8)
        | (refine wpList_row_w rfl 31 (.tmp 12) rfl w7.heap.size rfl 31 zeroCtx (0, 0) _ HJ4.out.two Tryf.underlying31 rfl Tryf.size31 ?_)
        | (refine wpList_row_w rfl 31 (.tmp 5) rfl w.heap.size rfl 31 zeroCtx (0, 0) _ HJ4.out.none Tryf.underlying31 rfl Tryf.size31 ?_))
      go_ret
      exact ⟨rfl, HJ4.out.below⟩
    · have hyes : Valid (s ++ ⟨#[45]⟩ ++ t) := hvu.2 ⟨HV.out, hz⟩
      have hqq : (byt s 0 == 48) = false ∨ ((byt s 0 == 48) = true ∧ (byt s 1 == 48) = false) := by
        by_cases h0 : byt s 0 = 48
        · exact .inr ⟨by simp [h0], by simpa using fun h1 => hz ⟨h0, h1⟩⟩
        · exact .inl (by simpa using h0)
      refine (top_yes _ _ u4 hyes).mono ?_
      rw [hcu]
      rintro e w7 ⟨rfl, hb7⟩
      clear hyes hvu hcu hz u4
      have he := fun w => eql31 w (ctxOf s) (ctx_shape s)
      rcases hqq with hq0 | ⟨hq0, hq1⟩
      all_goals
        go_wp2_with (first
          | (refine wpList_store_blk rfl 31 (.tmp 12) (.tmp 83) rfl w7.heap.size (ctxOf s) rfl rfl 31 zeroCtx (heap_alloc_new _ _) (by rw [Tryf.size31, ctx_size]) (by rw [ctx_size]; rfl) (ctx_one s) ?_; intro w8 hb8 hg8; have hJ := lay_two_ctx HJ3.out hb7 hb8 hg8; have HJ4 : Hid (J3 w w8 w4.heap.size w7.heap.size (ctxOf s) (ctxOf s)) := hJ; clear hJ HJ3 hb7 hb8 hg8)
          | (refine wpList_row_w rfl 31 (.tmp 12) rfl w7.heap.size rfl 31 (ctxOf s) (0, 0) _ HJ4.out.two Tryf.underlying31 rfl (by rw [Tryf.size31, ctx_size]) ?_)
          | (refine wpList_row_w rfl 31 (.tmp 10) rfl w4.heap.size rfl 31 (ctxOf s) (0, 0) _ HJ4.out.ctx Tryf.underlying31 rfl (by rw [Tryf.size31, ctx_size]) ?_))
        go_ret
        exact ⟨rfl, HJ4.out.below⟩
  · have hl55 : ((s.size : Int) != 55) = true := by simpa using (by omega : (s.size : Int) ≠ 55)
    clear h55
    go_wp2_with fail
    go_ret
    exact ⟨rfl, HJ3.out.below⟩
end Go.Proofs.Qxb6614691aFmt
