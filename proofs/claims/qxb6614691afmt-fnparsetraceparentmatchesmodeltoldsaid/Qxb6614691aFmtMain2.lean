/- The main function (3): the refused texts. -/
import Derived.Test.Qxb6614691aFmtMain1
namespace Go.Proofs.Qxb6614691aFmt
open Go.RowKit
theorem zero16_one : zero16.all (·.oneCell') = true := by kernel_rfl
theorem zero8_one : zero8.all (·.oneCell') = true := by kernel_rfl
set_option maxHeartbeats 4000000 in
set_option maxRecDepth 100000 in
theorem main_no (s t : ByteArray) (w : World) (hs : s.size ≤ 65536) (ht : t.size ≤ 65536) (hv : ¬ Valid s) :
    Calls Tryf.prog 3 #[.string s, .string t] w fun e w' => e = .returned (.bool true) ∧ Below w.heap.size w w' := by
  have HV : Hid (¬ Valid s) := hv
  clear hv
  go_enter Tryf.func3, Tryf.ntmps3
  go_wp2_with (go_at_call 4; refine (bytes_any s t _ hs ht).mono ?_; rintro e w' ⟨rfl, rfl⟩)
  refine (model_no s _ (by omega) HV.out).mono ?_
  rintro e w1 ⟨rfl, hb1⟩
  go_wp2_with (first
    | (refine wpList_store_blk rfl 23 (.tmp 7) (.tmp 30) rfl w1.heap.size zero16 rfl rfl 23 zero16 (by rw [Below.heap_alloc _ _ _ (by simp)]; exact heap_alloc_new _ _) (by rw [Tryf.size23']; rfl) rfl zero16_one ?_; intro w2 hb2 hg2)
    | (refine wpList_store_blk rfl 25 (.tmp 8) (.tmp 31) rfl (w1.heap.size + 1) zero8 rfl rfl 25 zero8 (by rw [hg2.block _ (by simp) (by simp)]; have h := heap_alloc_new (w1.alloc (.cells zero16 23)) (.cells zero8 25); simp only [World.size_alloc] at h; exact h) (by rw [Tryf.size25']; rfl) rfl zero8_one ?_; intro w3 hb3 hg3; have hJ := lay_two hb1 hb2 hg2 hb3 hg3; have HJ : Hid (J w w3 w1.heap.size zero16 zero8) := hJ; clear hJ hb1 hb2 hg2 hb3 hg3))
  refine (top_no s _ (by omega) HV.out).mono ?_
  rintro e w4 ⟨ty, ad, rfl, hb4⟩
  have hn31 := fun w => neq31 w zeroCtx zero_shape
  have hl : ((s.size : Int) != 55) = true ∨ (s.size = 55 ∧ ((s.size : Int) != 55) = false) := by
    by_cases h : s.size = 55
    · exact .inr ⟨h, by simp [h]⟩
    · exact .inl (by simpa using (by omega : (s.size : Int) ≠ 55))
  rcases hl with hl55 | ⟨h55, hl55⟩
  · go_wp2_with (first
      | (refine wpList_store_blk rfl 31 (.tmp 10) (.tmp 36) rfl w4.heap.size zeroCtx rfl rfl 31 zeroCtx (heap_alloc_new _ _) Tryf.size31 rfl zeroCtx_one ?_; intro w5 hb5 hg5; have hJ := lay_ctx HJ.out hb4 hb5 hg5; have HJ3 : Hid (J2 w w5 w1.heap.size w4.heap.size zero16 zero8 zeroCtx) := hJ; clear hJ HJ hb4 hb5 hg5)
      | (refine wpList_row_w rfl 31 (.tmp 10) rfl w4.heap.size rfl 31 zeroCtx (0, 0) _ HJ3.out.ctx Tryf.underlying31 rfl Tryf.size31 ?_)
      | (refine wpList_row_w rfl 31 (.tmp 5) rfl w.heap.size rfl 31 zeroCtx (0, 0) _ HJ3.out.none Tryf.underlying31 rfl Tryf.size31 ?_))
    go_ret
    exact ⟨rfl, HJ3.out.below⟩
  · have ha1 := fun w => run_string_add_sum (P := Tryf.prog) w s ⟨#[45]⟩ (by rw [h55]; decide)
    have ha2 := fun w => run_string_add_sum (P := Tryf.prog) w (s ++ ⟨#[45]⟩) t (by rw [ByteArray.size_append', h55, show (ByteArray.mk #[45]).size = 1 from rfl]; omega)
    have H55 : Hid (s.size = 55) := h55
    clear h55
    go_wp2_with (first
      | (refine wpList_store_blk rfl 31 (.tmp 10) (.tmp 36) rfl w4.heap.size zeroCtx rfl rfl 31 zeroCtx (heap_alloc_new _ _) Tryf.size31 rfl zeroCtx_one ?_; intro w5 hb5 hg5; have hJ := lay_ctx HJ.out hb4 hb5 hg5; have HJ3 : Hid (J2 w w5 w1.heap.size w4.heap.size zero16 zero8 zeroCtx) := hJ; clear hJ HJ hb4 hb5 hg5)
      | (refine wpList_row_w rfl 31 (.tmp 10) rfl w4.heap.size rfl 31 zeroCtx (0, 0) _ HJ3.out.ctx Tryf.underlying31 rfl Tryf.size31 ?_)
      | (refine wpList_row_w rfl 31 (.tmp 5) rfl w.heap.size rfl 31 zeroCtx (0, 0) _ HJ3.out.none Tryf.underlying31 rfl Tryf.size31 ?_))
    obtain ⟨u1, u2, u3, u4⟩ := longer_facts (t := t) H55.out ht
    have hno : ¬ Valid (s ++ ⟨#[45]⟩ ++ t) := fun h => HV.out ((valid_longer H55.out u3 u1 u2).1 h).1
    clear u1 u2 u3 ha1 ha2
    refine (top_no _ _ u4 hno).mono ?_
    rintro e w7 ⟨ty', ad', rfl, hb7⟩
    clear hno u4
    have he := fun w => eql31 w zeroCtx zero_shape
    go_wp2_with (first
      | (refine wpList_store_blk rfl 31 (.tmp 12) (.tmp 83) rfl w7.heap.size zeroCtx rfl rfl 31 zeroCtx (heap_alloc_new _ _) Tryf.size31 rfl zeroCtx_one ?_; intro w8 hb8 hg8; have hJ := lay_two_ctx HJ3.out hb7 hb8 hg8; have HJ4 : Hid (J3 w w8 w4.heap.size w7.heap.size zeroCtx zeroCtx) := hJ; clear hJ HJ3 hb7 hb8 hg8)
      | (refine wpList_row_w rfl 31 (.tmp 12) rfl w7.heap.size rfl 31 zeroCtx (0, 0) _ HJ4.out.two Tryf.underlying31 rfl Tryf.size31 ?_)
      | (refine wpList_row_w rfl 31 (.tmp 5) rfl w.heap.size rfl 31 zeroCtx (0, 0) _ HJ4.out.none Tryf.underlying31 rfl Tryf.size31 ?_))
    go_ret
    exact ⟨rfl, HJ4.out.below⟩
end Go.Proofs.Qxb6614691aFmt
