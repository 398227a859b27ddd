/- The contract of parseTraceparent (9), its end. -/
import Derived.Test.Qxb6614691aFmtLate
namespace Go.Proofs.Qxb6614691aFmt
open Go.RowKit Go.Extern.Stop Go.Stop Go.Extern
theorem fl_blk (w : World) : ((w.alloc (.cells #[.int .u8 0] 41)).drew).heap[w.heap.size]? = some (.cells ([.int .u8 0] : List Value).toArray 41 (0, 0)) := heap_alloc_new _ _
theorem fl_block {s : ByteArray} : (splice [.int .u8 0] 0 (vals (s.extract 53 55) 1)).toArray = #[.int .u8 (pair s 53)] := by
  simp [splice, vals, pair_extract s 53 55 0 (by omega)]
theorem ctx_size (s : ByteArray) : (ctxOf s).size = 27 := by simp [ctxOf, trL, spL]
theorem ctx_one (s : ByteArray) : (ctxOf s).all (·.oneCell') = true := by
  rw [Array.all_eq_true_iff_forall_mem]
  intro v hv
  simp only [ctxOf, trL, spL, flV, List.mem_toArray, List.mem_append, List.mem_map, List.mem_cons, List.not_mem_nil, or_false] at hv
  rcases hv with (⟨k, _, rfl⟩ | ⟨k, _, rfl⟩) | rfl | rfl | rfl <;> rfl
theorem ctx_eq (s : ByteArray) : (xs2 s).toArray.setIfInBounds 24 (flV s) = ctxOf s := by
  have e1 : vals (s.extract 3 35) 16 = trL s := by
    unfold vals trL
    apply List.map_congr_left
    intro k hk
    rw [pair_extract s 3 35 (2 * k) (by have := List.mem_range.1 hk; omega)]
  have e2 : vals (s.extract 36 52) 8 = spL s := by
    unfold vals spL
    apply List.map_congr_left
    intro k hk
    rw [pair_extract s 36 52 (2 * k) (by have := List.mem_range.1 hk; omega)]
  unfold xs2 xs1 ctxOf
  rw [e1, e2]
  apply Array.toList_inj.1
  have l1 : (trL s).length = 16 := by simp [trL]
  have l2 : (spL s).length = 8 := by simp [spL]
  simp only [splice, l1, l2, List.take_zero, List.nil_append, Nat.zero_add]
  rw [List.take_append_of_le_length (by omega), List.take_of_length_le (by omega), List.drop_append, List.drop_eq_nil_of_le (by omega), List.nil_append, List.drop_drop]
  simp only [l1, Array.toList_setIfInBounds]
  rw [show (zeroL.drop (16 + (16 + 8 - 16)) : List Value) = [.int .u8 0, .string ⟨#[]⟩, .bool false] from rfl]
  rw [List.set_append_right _ _ (by simp [l1, l2])]
  simp [l1, l2]
set_option maxHeartbeats 4000000 in
theorem late_fl (s : ByteArray) (w : World) (h55 : 55 ≤ s.size) (hlen : s.size ≤ 200000) (hv : goodAt s 0 ∧ goodAt s 1) (hh : Header s) (htr : GoodTr s) (hsp : GoodSp s) (hbad : ¬ (goodAt s 53 ∧ goodAt s 54)) :
    Calls Tryf.prog 9 #[.string s] w fun e w' => Bad w e w' := by
  have HB : Hid (∀ j, j < 2 * 1 → goodAt (s.extract 0 2) j) := good2 hv 2 rfl
  have hb55 : ((s.size : Int) < 55) = False := by simp; omega
  have hq : (pair s 0 == 255) = false := by simpa using hh.ff
  have hcase := head_case h55 hh
  have h2 : ((s[2].toNat : Int) != 45) = false := by rw [byt_eq s 2 (by omega)]; simp [hh.sep.1]
  have h35 : ((s[35].toNat : Int) != 45) = false := by rw [byt_eq s 35 (by omega)]; simp [hh.sep.2.1]
  have h52 : ((s[52].toNat : Int) != 45) = false := by rw [byt_eq s 52 (by omega)]; simp [hh.sep.2.2]
  clear hv hh
  have HTR : Hid (GoodTr s) := htr
  clear htr
  have HSP : Hid (GoodSp s) := hsp
  clear hsp
  have HBAD : Hid (¬ (goodAt s 53 ∧ goodAt s 54)) := hbad
  clear hbad
  go_enter Tryf.func9, Tryf.ntmps9
  go_wp2_with fail
  go_region_with (go_at_call 11; refine (hex_yes (s.extract 0 2) 41 (w.heap.size + 1) 0 1 1 1 [.int .u8 0] _ (by omega) (by simp; omega) (by omega) (by omega) rfl ?_ HB.out).mono ?_; exact heap_alloc2_new _ _ _; rintro e w2 ⟨rfl, hg2, hc2⟩)
  obtain ⟨hres, hbel, hsz⟩ := after_ver hg2
  rw [ver_block] at hc2
  have hcv : w2.cell? ⟨w.heap.size + 1, 0, none⟩ = some (.int .u8 (pair s 0)) := by rw [cell_of_row _ _ _ _ _ _ hc2]; rfl
  clear hg2 hc2 HB
  rcases hcase with ⟨hz1, hl55, hq4⟩ | ⟨hz1, hl55⟩ | ⟨hz1, hz2, hl55⟩
  all_goals
    go_wp2_with fail
    clear hcv h2 h35 h52 hq hb55
    go_region_with (go_at_call 13; refine (id_yes (s.extract 3 35) 31 w2.heap.size 0 16 16 27 zeroL _ (by omega) (by simp; omega) (by omega) (by omega) rfl ?_ HTR.out).mono ?_; exact zeroL_blk _; rintro e w3 ⟨rfl, hg3, hc3⟩)
    obtain ⟨hres3, hbel3, hsz3⟩ := after_id (xs := zeroL) hres hbel hsz hg3
    clear hg3 hres hbel
    have hc3' : w3.heap[w2.heap.size]? = some (.cells (xs1 s).toArray 31 (0, 0)) := hc3
    clear hc3
    go_wp2_with fail
    go_region_with (go_at_call 13; refine (id_yes (s.extract 36 52) 31 w2.heap.size 16 8 8 27 (xs1 s) _ (by omega) (by simp; omega) (by omega) (by omega) (xs1_len s) ?_ HSP.out).mono ?_; exact hc3'; rintro e w4 ⟨rfl, hg4, hc4⟩)
    obtain ⟨hres4, hbel4, hsz4⟩ := after_two hsz hres3 hbel3 hsz3 hg4
    clear hg4 hres3 hbel3 hc3'
    have hc4' : w4.heap[w2.heap.size]? = some (.cells (xs2 s).toArray 31 (0, 0)) := hc4
    clear hc4
    go_wp2_with fail
    go_region_with (go_at_call 11; refine (hex_no (s.extract 53 55) 41 w4.heap.size 0 1 1 1 [.int .u8 0] _ (by omega) (by simp; omega) (by omega) (by omega) rfl ?_ (bad2 HBAD.out 55 rfl)).mono ?_; exact fl_blk _; rintro e w5 ⟨t, a, rfl, hv5, hg5⟩)
    obtain ⟨hres, hbel, hsz5, hc5⟩ := after_fl hsz hres4 hbel4 hsz4 hc4' hg5
    have HV : Hid (IsErr (w.heap.size + 2) w5 (.iface t (.pointer (some a)))) := hv5.low (by simp; omega)
    clear hv5 hg5 hres4 hbel4 hc4' hc5
    go_wp2_with fail
    refine (errorf_err _ _ _ _ Tryf.fmtG (by simp) (isErr_alloc HV.out)).mono ?_
    rintro e wE ⟨v, rfl, hvE, hbE⟩
    have hbX := below_of_alloc hbE
    clear hbE
    obtain ⟨hresE, hbelE, hszE⟩ := exit_facts hres hbel (by omega) hbX
    have HE : Hid (IsErr (w.heap.size + 1) wE v) := hvE.low (by simp; omega)
    clear hbX hvE
    go_wp2_with (refine wpList_store_blk rfl 31 (.tmp 2) (.tmp 109) rfl w.heap.size zeroCtx rfl rfl 31 zeroCtx hresE Tryf.size31 rfl zeroCtx_one ?_; intro w3 hb3 hg3)
    exact bodyPost_ret (v := .tuple #[.agg zeroCtx, v]) (results_ctx Tryf.results9 _ w3 w.heap.size zeroCtx v rfl rfl hb3 rfl) rfl ⟨v, rfl, (isErr_grown HE.out hg3 (by omega)).low (by omega), below_grown hbelE hg3 (by omega)⟩
set_option maxHeartbeats 4000000 in
theorem late_ok (s : ByteArray) (w : World) (h55 : 55 ≤ s.size) (hlen : s.size ≤ 200000) (hv : goodAt s 0 ∧ goodAt s 1) (hh : Header s) (htr : GoodTr s) (hsp : GoodSp s) (hfl : goodAt s 53 ∧ goodAt s 54) :
    Calls Tryf.prog 9 #[.string s] w fun e w' => e = .returned (.tuple #[.agg (ctxOf s), .nilIface]) ∧ Below w.heap.size w w' := by
  have HB : Hid (∀ j, j < 2 * 1 → goodAt (s.extract 0 2) j) := good2 hv 2 rfl
  have hb55 : ((s.size : Int) < 55) = False := by simp; omega
  have hq : (pair s 0 == 255) = false := by simpa using hh.ff
  have hcase := head_case h55 hh
  have h2 : ((s[2].toNat : Int) != 45) = false := by rw [byt_eq s 2 (by omega)]; simp [hh.sep.1]
  have h35 : ((s[35].toNat : Int) != 45) = false := by rw [byt_eq s 35 (by omega)]; simp [hh.sep.2.1]
  have h52 : ((s[52].toNat : Int) != 45) = false := by rw [byt_eq s 52 (by omega)]; simp [hh.sep.2.2]
  clear hv hh
  have HTR : Hid (GoodTr s) := htr
  clear htr
  have HSP : Hid (GoodSp s) := hsp
  clear hsp
  have HFL : Hid (goodAt s 53 ∧ goodAt s 54) := hfl
  clear hfl
  go_enter Tryf.func9, Tryf.ntmps9
  go_wp2_with fail
  go_region_with (go_at_call 11; refine (hex_yes (s.extract 0 2) 41 (w.heap.size + 1) 0 1 1 1 [.int .u8 0] _ (by omega) (by simp; omega) (by omega) (by omega) rfl ?_ HB.out).mono ?_; exact heap_alloc2_new _ _ _; rintro e w2 ⟨rfl, hg2, hc2⟩)
  obtain ⟨hres, hbel, hsz⟩ := after_ver hg2
  rw [ver_block] at hc2
  have hcv : w2.cell? ⟨w.heap.size + 1, 0, none⟩ = some (.int .u8 (pair s 0)) := by rw [cell_of_row _ _ _ _ _ _ hc2]; rfl
  clear hg2 hc2 HB
  rcases hcase with ⟨hz1, hl55, hq4⟩ | ⟨hz1, hl55⟩ | ⟨hz1, hz2, hl55⟩
  all_goals
    go_wp2_with fail
    clear hcv h2 h35 h52 hq hb55
    go_region_with (go_at_call 13; refine (id_yes (s.extract 3 35) 31 w2.heap.size 0 16 16 27 zeroL _ (by omega) (by simp; omega) (by omega) (by omega) rfl ?_ HTR.out).mono ?_; exact zeroL_blk _; rintro e w3 ⟨rfl, hg3, hc3⟩)
    obtain ⟨hres3, hbel3, hsz3⟩ := after_id (xs := zeroL) hres hbel hsz hg3
    clear hg3 hres hbel
    have hc3' : w3.heap[w2.heap.size]? = some (.cells (xs1 s).toArray 31 (0, 0)) := hc3
    clear hc3
    go_wp2_with fail
    go_region_with (go_at_call 13; refine (id_yes (s.extract 36 52) 31 w2.heap.size 16 8 8 27 (xs1 s) _ (by omega) (by simp; omega) (by omega) (by omega) (xs1_len s) ?_ HSP.out).mono ?_; exact hc3'; rintro e w4 ⟨rfl, hg4, hc4⟩)
    obtain ⟨hres4, hbel4, hsz4⟩ := after_two hsz hres3 hbel3 hsz3 hg4
    clear hg4 hres3 hbel3 hc3'
    have hc4' : w4.heap[w2.heap.size]? = some (.cells (xs2 s).toArray 31 (0, 0)) := hc4
    clear hc4
    go_wp2_with fail
    go_region_with (go_at_call 11; refine (hex_yes (s.extract 53 55) 41 w4.heap.size 0 1 1 1 [.int .u8 0] _ (by omega) (by simp; omega) (by omega) (by omega) rfl ?_ (good2 HFL.out 55 rfl)).mono ?_; exact fl_blk _; rintro e w5 ⟨rfl, hg5, hf5⟩)
    obtain ⟨hres, hbel, hsz5, hc5⟩ := after_fl hsz hres4 hbel4 hsz4 hc4' hg5
    rw [fl_block] at hf5
    have hcf : w5.cell? ⟨w4.heap.size, 0, none⟩ = some (.int .u8 (pair s 53)) := by rw [cell_of_row _ _ _ _ _ _ hf5]; rfl
    have hcs : w5.cell? ⟨w2.heap.size, 24, none⟩ = some ((xs2 s)[24]'(by rw [xs2_len]; omega)) := by rw [cell_of_row _ _ _ _ _ _ hc5]; simp [xs2_len]
    have hfs : w5.frozen? ⟨w2.heap.size, 24, none⟩ = false := frozen_of_row w5 _ _ _ _ hc5
    generalize ((xs2 s)[24]'(by rw [xs2_len]; omega)) = old at *
    have H5 : Hid (w5.heap[w2.heap.size]? = some (.cells (xs2 s).toArray 31 (0, 0))) := hc5
    clear hg5 hres4 hbel4 hc4' hf5 hc5
    have hL : (w5.setCell ⟨w2.heap.size, 24, none⟩ (flV s)).heap[w2.heap.size]? = some (.cells (ctxOf s) 31 (0, 0)) := by
      rw [heap_setCell_same w5 _ _ _ _ _ H5.out, ctx_eq]
    have hR : (w5.setCell ⟨w2.heap.size, 24, none⟩ (flV s)).heap[w.heap.size]? = some (.cells zeroCtx 31 (0, 0)) := by
      rw [heap_setCell_other _ _ _ _ (by show w.heap.size ≠ w2.heap.size; omega)]; exact hres
    have hB : Below w.heap.size w (w5.setCell ⟨w2.heap.size, 24, none⟩ (flV s)) := hbel.setCell (by show w.heap.size ≤ w2.heap.size; omega) _
    have HL : Hid ((w5.setCell ⟨w2.heap.size, 24, none⟩ (flV s)).heap[w2.heap.size]? = some (.cells (ctxOf s) 31 (0, 0))) := hL
    have HR : Hid ((w5.setCell ⟨w2.heap.size, 24, none⟩ (flV s)).heap[w.heap.size]? = some (.cells zeroCtx 31 (0, 0))) := hR
    have HBX : Hid (Below w.heap.size w (w5.setCell ⟨w2.heap.size, 24, none⟩ (flV s))) := hB
    have hszX : w.heap.size ≤ (w5.setCell ⟨w2.heap.size, 24, none⟩ (flV s)).heap.size := hB.size
    clear hL hR hB hres hbel
    go_wp2_with (first
      | (refine wpList_load_row rfl 31 (.tmp 6) rfl w2.heap.size rfl 31 (ctxOf s) (0, 0) _ HL.out Tryf.underlying31 rfl (by rw [Tryf.size31, ctx_size]) ?_)
      | (refine wpList_store_blk rfl 31 (.tmp 2) (.tmp 117) rfl w.heap.size (ctxOf s) rfl rfl 31 zeroCtx HR.out (by rw [Tryf.size31, ctx_size]) (by rw [ctx_size]; rfl) (ctx_one s) ?_; intro w6 hb6 hg6))
    exact bodyPost_ret (v := .tuple #[.agg (ctxOf s), .nilIface]) (results_ctx Tryf.results9 _ w6 w.heap.size (ctxOf s) .nilIface rfl rfl hb6 (ctx_size s)) rfl ⟨rfl, below_grown HBX.out hg6 hszX⟩
theorem tr_of {s : ByteArray} (h : ∀ j, j < 32 → goodAt s (3 + j)) (hn : ∃ j, j < 16 ∧ pair s (3 + 2 * j) ≠ 0) : GoodTr s := by
  refine ⟨fun j hj => (good_extract s 3 35 j (by omega)).2 (h j (by omega)), ?_⟩
  obtain ⟨j, hj, hp⟩ := hn
  exact ⟨j, hj, by rw [pair_extract s 3 35 (2 * j) (by omega)]; exact hp⟩
theorem of_tr {s : ByteArray} (h : GoodTr s) : (∀ j, j < 32 → goodAt s (3 + j)) ∧ ∃ j, j < 16 ∧ pair s (3 + 2 * j) ≠ 0 := by
  obtain ⟨h1, j, hj, hp⟩ := h
  refine ⟨fun j hj => (good_extract s 3 35 j (by omega)).1 (h1 j (by omega)), j, hj, ?_⟩
  rw [pair_extract s 3 35 (2 * j) (by omega)] at hp; exact hp
theorem sp_of {s : ByteArray} (h : ∀ j, j < 16 → goodAt s (36 + j)) (hn : ∃ j, j < 8 ∧ pair s (36 + 2 * j) ≠ 0) : GoodSp s := by
  refine ⟨fun j hj => (good_extract s 36 52 j (by omega)).2 (h j (by omega)), ?_⟩
  obtain ⟨j, hj, hp⟩ := hn
  exact ⟨j, hj, by rw [pair_extract s 36 52 (2 * j) (by omega)]; exact hp⟩
theorem of_sp {s : ByteArray} (h : GoodSp s) : (∀ j, j < 16 → goodAt s (36 + j)) ∧ ∃ j, j < 8 ∧ pair s (36 + 2 * j) ≠ 0 := by
  obtain ⟨h1, j, hj, hp⟩ := h
  refine ⟨fun j hj => (good_extract s 36 52 j (by omega)).1 (h1 j (by omega)), j, hj, ?_⟩
  rw [pair_extract s 36 52 (2 * j) (by omega)] at hp; exact hp
theorem parse_yes (s : ByteArray) (w : World) (hlen : s.size ≤ 200000) (h : Valid s) :
    Calls Tryf.prog 9 #[.string s] w fun e w' => e = .returned (.tuple #[.agg (ctxOf s), .nilIface]) ∧ Below w.heap.size w w' :=
  late_ok s w h.len hlen h.ver ⟨h.ff, h.zero, h.tail, h.sep⟩ (tr_of h.tr h.trn) (sp_of h.sp h.spn) h.fl
theorem parse_no (s : ByteArray) (w : World) (hlen : s.size ≤ 200000) (h : ¬ Valid s) : Calls Tryf.prog 9 #[.string s] w fun e w' => Bad w e w' := by
  by_cases h1 : s.size < 55
  · exact parse_short s w h1
  have h55 : 55 ≤ s.size := by omega
  by_cases h2 : goodAt s 0 ∧ goodAt s 1
  case neg => exact parse_ver s w h55 h2
  by_cases h3 : Header s
  case neg => exact parse_early s w h55 hlen h2 h3
  by_cases h4 : GoodTr s
  case neg => exact late_tr s w h55 hlen h2 h3 h4
  by_cases h5 : GoodSp s
  case neg => exact late_sp s w h55 hlen h2 h3 h4 h5
  by_cases h6 : goodAt s 53 ∧ goodAt s 54
  case neg => exact late_fl s w h55 hlen h2 h3 h4 h5 h6
  exact absurd ⟨h55, h2, h3.ff, h3.zero, h3.tail, h3.sep, (of_tr h4).1, (of_tr h4).2, (of_sp h5).1, (of_sp h5).2, h6⟩ h
end Go.Proofs.Qxb6614691aFmt
