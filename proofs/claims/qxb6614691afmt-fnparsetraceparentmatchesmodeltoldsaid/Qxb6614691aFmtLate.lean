/- The contract of parseTraceparent (9), its second half. -/
import Derived.Test.Qxb6614691aFmtParse
namespace Go.Proofs.Qxb6614691aFmt
open Go.RowKit Go.Extern.Stop Go.Stop Go.Extern
theorem head_case {s : ByteArray} (h55 : 55 ≤ s.size) (hh : Header s) :
    ((pair s 0 == 0) = false ∧ ∃ h : 55 < s.size, ((s[55].toNat : Int) != 45) = false) ∨ ((pair s 0 == 0) = false ∧ s.size ≤ 55) ∨ ((pair s 0 == 0) = true ∧ ((s.size : Int) != 55) = false ∧ s.size ≤ 55) := by
  by_cases h : 55 < s.size
  · left
    have h0 : pair s 0 ≠ 0 := fun h0 => by have := hh.zero h0; omega
    exact ⟨by simpa using h0, h, by rw [byt_eq s 55 h]; simp [hh.tail h]⟩
  · right
    by_cases h0 : pair s 0 = 0
    · right
      have := hh.zero h0
      exact ⟨by simp [h0], by simp [this], by omega⟩
    · left; exact ⟨by simpa using h0, by omega⟩
def zeroL : List Value := zeroCtx.toList
theorem zeroL_blk (w : World) : ((w.alloc (.cells zeroCtx 31)).drew).heap[w.heap.size]? = some (.cells zeroL.toArray 31 (0, 0)) := heap_alloc_new _ _
/-- behind a decoder that wrote to the call's own SpanContext -/
theorem after_id {w w2 w3 : World} {xs : List Value} (hres : w2.heap[w.heap.size]? = some (.cells zeroCtx 31 (0, 0))) (hbel : Below w.heap.size w w2) (hsz : w.heap.size + 2 ≤ w2.heap.size)
    (hg : ((w2.alloc (.cells xs.toArray 31)).drew).grownBy w3 (some w2.heap.size)) :
    w3.heap[w.heap.size]? = some (.cells zeroCtx 31 (0, 0)) ∧ Below w.heap.size w w3 ∧ w2.heap.size + 1 ≤ w3.heap.size := by
  have hs := hg.size
  simp at hs
  refine ⟨?_, ?_, by omega⟩
  · rw [hg.block w.heap.size (by simp; omega) (by simp; omega)]
    show (w2.alloc _).heap[_]? = _
    rw [Below.heap_alloc _ _ _ (by omega)]; exact hres
  · exact ((hbel.alloc (by omega) _).drew).grown hg (by simp; omega) (fun k h => by cases h; omega)
theorem after_two {w w3 w4 : World} {Bs : Nat} (hBs : w.heap.size + 2 ≤ Bs) (hres : w3.heap[w.heap.size]? = some (.cells zeroCtx 31 (0, 0))) (hbel : Below w.heap.size w w3) (hsz : Bs + 1 ≤ w3.heap.size)
    (hg : (w3.drew).grownBy w4 (some Bs)) :
    w4.heap[w.heap.size]? = some (.cells zeroCtx 31 (0, 0)) ∧ Below w.heap.size w w4 ∧ Bs + 1 ≤ w4.heap.size := by
  have hs : w3.heap.size ≤ w4.heap.size := hg.size
  refine ⟨?_, ?_, by omega⟩
  · rw [hg.block w.heap.size (by show _ < w3.heap.size; omega) (by simp; omega)]; exact hres
  · exact (hbel.drew).grown hg (by show _ ≤ w3.heap.size; omega) (fun k h => by cases h; omega)
theorem after_fl {w w4 w5 : World} {Bs : Nat} {o b : Obj} (hBs : w.heap.size + 2 ≤ Bs) (hres : w4.heap[w.heap.size]? = some (.cells zeroCtx 31 (0, 0))) (hbel : Below w.heap.size w w4) (hsz : Bs + 1 ≤ w4.heap.size)
    (hblk : w4.heap[Bs]? = some b) (hg : ((w4.alloc o).drew).grownBy w5 (some w4.heap.size)) :
    w5.heap[w.heap.size]? = some (.cells zeroCtx 31 (0, 0)) ∧ Below w.heap.size w w5 ∧ Bs + 1 ≤ w5.heap.size ∧ w5.heap[Bs]? = some b := by
  have hs := hg.size
  simp at hs
  refine ⟨?_, ?_, by omega, ?_⟩
  · rw [hg.block w.heap.size (by simp; omega) (by simp; omega)]
    show (w4.alloc _).heap[_]? = _
    rw [Below.heap_alloc _ _ _ (by omega)]; exact hres
  · exact ((hbel.alloc (by omega) _).drew).grown hg (by simp; omega) (fun k h => by cases h; omega)
  · rw [hg.block Bs (by simp; omega) (by simp; omega)]
    show (w4.alloc _).heap[_]? = _
    rw [Below.heap_alloc _ _ _ (by omega)]; exact hblk
def xs1 (s : ByteArray) : List Value := splice zeroL 0 (vals (s.extract 3 35) 16)
def xs2 (s : ByteArray) : List Value := splice (xs1 s) 16 (vals (s.extract 36 52) 8)
theorem xs1_len (s : ByteArray) : (xs1 s).length = 27 := by
  unfold xs1; rw [splice_length _ _ _ (by simp [vals, zeroL, zeroCtx])]; rfl
theorem xs2_len (s : ByteArray) : (xs2 s).length = 27 := by
  unfold xs2; rw [splice_length _ _ _ (by rw [xs1_len]; simp [vals])]; exact xs1_len s
def GoodTr (s : ByteArray) : Prop := (∀ j, j < 2 * 16 → goodAt (s.extract 3 35) j) ∧ ∃ j, j < 16 ∧ pair (s.extract 3 35) (2 * j) ≠ 0
def GoodSp (s : ByteArray) : Prop := (∀ j, j < 2 * 8 → goodAt (s.extract 36 52) j) ∧ ∃ j, j < 8 ∧ pair (s.extract 36 52) (2 * j) ≠ 0
def GoodFl (s : ByteArray) : Prop := ∀ j, j < 2 * 1 → goodAt (s.extract 53 55) j
set_option maxHeartbeats 4000000 in
theorem late_tr (s : ByteArray) (w : World) (h55 : 55 ≤ s.size) (hlen : s.size ≤ 200000) (hv : goodAt s 0 ∧ goodAt s 1) (hh : Header s) (hbad : ¬ GoodTr s) :
    Calls Tryf.prog 9 #[.string s] w fun e w' => Bad w e w' := by
  have HB : Hid (∀ j, j < 2 * 1 → goodAt (s.extract 0 2) j) := good2 hv 2 rfl
  have hb55 : ((s.size : Int) < 55) = False := by simp; omega
  have hq : (pair s 0 == 255) = false := by simpa using hh.ff
  have hcase := head_case h55 hh
  have h2 : ((s[2].toNat : Int) != 45) = false := by rw [byt_eq s 2 (by omega)]; simp [hh.sep.1]
  have h35 : ((s[35].toNat : Int) != 45) = false := by rw [byt_eq s 35 (by omega)]; simp [hh.sep.2.1]
  have h52 : ((s[52].toNat : Int) != 45) = false := by rw [byt_eq s 52 (by omega)]; simp [hh.sep.2.2]
  clear hv hh
  have HBAD : Hid (¬ GoodTr s) := hbad
  clear hbad
  go_enter Tryf.func9, Tryf.ntmps9
  go_wp2_with fail
  go_region_with (go_at_call 11; refine (hex_yes (s.extract 0 2) 41 (w.heap.size + 1) 0 1 1 1 [.int .u8 0] _ (by omega) (by simp; omega) (by omega) (by omega) rfl ?_ HB.out).mono ?_; exact heap_alloc2_new _ _ _; rintro e w2 ⟨rfl, hg2, hc2⟩)
  obtain ⟨hres, hbel, hsz⟩ := after_ver hg2
  rw [ver_block] at hc2
  have hcv : w2.cell? ⟨w.heap.size + 1, 0, none⟩ = some (.int .u8 (pair s 0)) := by rw [cell_of_row _ _ _ _ _ _ hc2]; rfl
  clear hg2 hc2 HB
  rcases hcase with ⟨hz1, hl55, hq4⟩ | ⟨hz1, hl55⟩ | ⟨hz1, hz2, hl55⟩
  all_goals
    go_wp2_with fail
    clear hcv h2 h35 h52 hq hb55
    go_region_with (go_at_call 13; refine (id_no (s.extract 3 35) 31 w2.heap.size 0 16 16 27 zeroL _ (by omega) (by simp; omega) (by omega) (by omega) rfl ?_ HBAD.out).mono ?_; exact zeroL_blk _; rintro e w3 ⟨t, a, rfl, hv3, hg3⟩)
    obtain ⟨hres3, hbel3, hsz3⟩ := after_id (xs := zeroL) hres hbel hsz hg3
    have HV : Hid (IsErr (w.heap.size + 2) w3 (.iface t (.pointer (some a)))) := hv3.low (by simp; omega)
    clear hv3 hg3 hres hbel
    have hres := hres3
    have hbel := hbel3
    clear hres3 hbel3
    go_wp2_with fail
    refine (errorf_err _ _ _ _ Tryf.fmtT (by simp) (isErr_alloc HV.out)).mono ?_
    rintro e wE ⟨v, rfl, hvE, hbE⟩
    have hbX := below_of_alloc hbE
    clear hbE
    obtain ⟨hresE, hbelE, hszE⟩ := exit_facts hres hbel (by omega) hbX
    have HE : Hid (IsErr (w.heap.size + 1) wE v) := hvE.low (by simp; omega)
    clear hbX hvE
    go_wp2_with (refine wpList_store_blk rfl 31 (.tmp 2) (.tmp 88) rfl w.heap.size zeroCtx rfl rfl 31 zeroCtx hresE Tryf.size31 rfl zeroCtx_one ?_; intro w3 hb3 hg3)
    exact bodyPost_ret (v := .tuple #[.agg zeroCtx, v]) (results_ctx Tryf.results9 _ w3 w.heap.size zeroCtx v rfl rfl hb3 rfl) rfl ⟨v, rfl, (isErr_grown HE.out hg3 (by omega)).low (by omega), below_grown hbelE hg3 (by omega)⟩
set_option maxHeartbeats 4000000 in
theorem late_sp (s : ByteArray) (w : World) (h55 : 55 ≤ s.size) (hlen : s.size ≤ 200000) (hv : goodAt s 0 ∧ goodAt s 1) (hh : Header s) (htr : GoodTr s) (hbad : ¬ GoodSp s) :
    Calls Tryf.prog 9 #[.string s] w fun e w' => Bad w e w' := by
  have HB : Hid (∀ j, j < 2 * 1 → goodAt (s.extract 0 2) j) := good2 hv 2 rfl
  have hb55 : ((s.size : Int) < 55) = False := by simp; omega
  have hq : (pair s 0 == 255) = false := by simpa using hh.ff
  have hcase := head_case h55 hh
  have h2 : ((s[2].toNat : Int) != 45) = false := by rw [byt_eq s 2 (by omega)]; simp [hh.sep.1]
  have h35 : ((s[35].toNat : Int) != 45) = false := by rw [byt_eq s 35 (by omega)]; simp [hh.sep.2.1]
  have h52 : ((s[52].toNat : Int) != 45) = false := by rw [byt_eq s 52 (by omega)]; simp [hh.sep.2.2]
  clear hv hh
  have HTR : Hid (GoodTr s) := htr
  clear htr
  have HBAD : Hid (¬ GoodSp s) := hbad
  clear hbad
  go_enter Tryf.func9, Tryf.ntmps9
  go_wp2_with fail
  go_region_with (go_at_call 11; refine (hex_yes (s.extract 0 2) 41 (w.heap.size + 1) 0 1 1 1 [.int .u8 0] _ (by omega) (by simp; omega) (by omega) (by omega) rfl ?_ HB.out).mono ?_; exact heap_alloc2_new _ _ _; rintro e w2 ⟨rfl, hg2, hc2⟩)
  obtain ⟨hres, hbel, hsz⟩ := after_ver hg2
  rw [ver_block] at hc2
  have hcv : w2.cell? ⟨w.heap.size + 1, 0, none⟩ = some (.int .u8 (pair s 0)) := by rw [cell_of_row _ _ _ _ _ _ hc2]; rfl
  clear hg2 hc2 HB
  rcases hcase with ⟨hz1, hl55, hq4⟩ | ⟨hz1, hl55⟩ | ⟨hz1, hz2, hl55⟩
  all_goals
    go_wp2_with fail
    clear hcv h2 h35 h52 hq hb55
    go_region_with (go_at_call 13; refine (id_yes (s.extract 3 35) 31 w2.heap.size 0 16 16 27 zeroL _ (by omega) (by simp; omega) (by omega) (by omega) rfl ?_ HTR.out).mono ?_; exact zeroL_blk _; rintro e w3 ⟨rfl, hg3, hc3⟩)
    obtain ⟨hres3, hbel3, hsz3⟩ := after_id (xs := zeroL) hres hbel hsz hg3
    clear hg3 hres hbel
    have hc3' : w3.heap[w2.heap.size]? = some (.cells (xs1 s).toArray 31 (0, 0)) := hc3
    clear hc3
    go_wp2_with fail
    go_region_with (go_at_call 13; refine (id_no (s.extract 36 52) 31 w2.heap.size 16 8 8 27 (xs1 s) _ (by omega) (by simp; omega) (by omega) (by omega) (xs1_len s) ?_ HBAD.out).mono ?_; exact hc3'; rintro e w4 ⟨t, a, rfl, hv4, hg4⟩)
    obtain ⟨hres4, hbel4, hsz4⟩ := after_two hsz hres3 hbel3 hsz3 hg4
    have HV : Hid (IsErr (w.heap.size + 2) w4 (.iface t (.pointer (some a)))) := hv4.low (by show _ ≤ w3.heap.size; omega)
    clear hv4 hg4 hres3 hbel3 hc3'
    have hres := hres4
    have hbel := hbel4
    clear hres4 hbel4
    go_wp2_with fail
    refine (errorf_err _ _ _ _ Tryf.fmtP (by simp) (isErr_alloc HV.out)).mono ?_
    rintro e wE ⟨v, rfl, hvE, hbE⟩
    have hbX := below_of_alloc hbE
    clear hbE
    obtain ⟨hresE, hbelE, hszE⟩ := exit_facts hres hbel (by omega) hbX
    have HE : Hid (IsErr (w.heap.size + 1) wE v) := hvE.low (by simp; omega)
    clear hbX hvE
    go_wp2_with (refine wpList_store_blk rfl 31 (.tmp 2) (.tmp 99) rfl w.heap.size zeroCtx rfl rfl 31 zeroCtx hresE Tryf.size31 rfl zeroCtx_one ?_; intro w3 hb3 hg3)
    exact bodyPost_ret (v := .tuple #[.agg zeroCtx, v]) (results_ctx Tryf.results9 _ w3 w.heap.size zeroCtx v rfl rfl hb3 rfl) rfl ⟨v, rfl, (isErr_grown HE.out hg3 (by omega)).low (by omega), below_grown hbelE hg3 (by omega)⟩
end Go.Proofs.Qxb6614691aFmt
