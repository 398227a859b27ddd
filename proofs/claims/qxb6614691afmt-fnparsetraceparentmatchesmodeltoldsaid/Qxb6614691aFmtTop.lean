/- The contract of ParseTraceparent (6). -/
import Derived.Test.Qxb6614691aFmtLast
namespace Go.Proofs.Qxb6614691aFmt
open Go.RowKit Go.Extern.Stop Go.Stop Go.Extern
theorem Tryf.fmtTop (w : World) : (FmtDoors.printed ⟨#[112, 97, 114, 115, 101, 32, 116, 114, 97, 99, 101, 112, 97, 114, 101, 110, 116, 58, 32, 37, 119]⟩ 1).run Tryf.prog w = .ok [(0, 119, false)] w := by kernel_rfl
/-- what is known once the SpanContext has been laid into a variable of the call's own -/
theorem after_lay {w w1 w2 : World} (hb : Below (w.alloc (.cells zeroCtx 31)).heap.size (w.alloc (.cells zeroCtx 31)) w1) (hg : (w1.alloc (.cells zeroCtx 31)).grownBy w2 (some w1.heap.size)) :
    w2.heap[w.heap.size]? = some (.cells zeroCtx 31 (0, 0)) ∧ Below w.heap.size w w2 ∧ w.heap.size + 1 ≤ w1.heap.size ∧ w1.heap.size + 1 ≤ w2.heap.size := by
  have h1 := hb.size
  have h2 := hg.size
  simp at h1 h2
  refine ⟨?_, ?_, by omega, by omega⟩
  · rw [hg.block w.heap.size (by simp; omega) (by simp; omega), Below.heap_alloc _ _ _ (by omega), hb.block _ (by simp)]
    exact heap_alloc_new _ _
  · exact ((((Below.refl _ _).alloc (Nat.le_refl _) _).trans (hb.mono (by simp))).alloc (by omega) _).grown hg (by simp; omega) (fun k h => by cases h; omega)
theorem isErr_lay {w w1 w2 : World} {v : Value} {o : Obj} (h : IsErr (w.alloc (.cells zeroCtx 31)).heap.size w1 v) (hg : (w1.alloc o).grownBy w2 (some w1.heap.size)) : IsErr (w.heap.size + 1) w2 v := by
  obtain ⟨a, s, hv, hc, hl, hlo⟩ := isErr_alloc (o := o) h
  obtain ⟨a', s', hv', hc', hl', hlo'⟩ := h
  have e : a = a' := by
    rcases hv with rfl | rfl <;> rcases hv' with h | h <;> simp at h
    · exact h
    · exact h
  subst e
  exact ⟨a, s, hv, hg.cell hc (by simp; omega), Nat.lt_of_lt_of_le hl hg.size, by simpa using hlo⟩
set_option maxHeartbeats 1000000 in
theorem top_yes (s : ByteArray) (w : World) (hlen : s.size ≤ 200000) (h : Valid s) :
    Calls Tryf.prog 6 #[.string s] w fun e w' => e = .returned (.tuple #[.agg (ctxOf s), .nilIface]) ∧ Below w.heap.size w w' := by
  have HV : Hid (Valid s) := h
  clear h
  go_enter Tryf.func6, Tryf.ntmps6
  go_wp2_with fail
  refine (parse_yes s _ hlen HV.out).mono ?_
  rintro e w1 ⟨rfl, hb⟩
  go_wp2_with (first
    | (refine wpList_store_blk rfl 31 (.tmp 4) (.tmp 9) rfl w1.heap.size (ctxOf s) rfl rfl 31 zeroCtx (heap_alloc_new _ _) (by rw [Tryf.size31, ctx_size]) (by rw [ctx_size]; rfl) (ctx_one s) ?_; intro w2 hb2 hg2; obtain ⟨hr2, hbel2, hsz1, hsz2⟩ := after_lay hb hg2; have HB2 : Hid (w2.heap[w1.heap.size]? = some (.cells (ctxOf s) 31 (0, 0))) := hb2; clear hb hg2 hb2)
    | (refine wpList_load_row rfl 31 (.tmp 4) rfl w1.heap.size rfl 31 (ctxOf s) (0, 0) _ HB2.out Tryf.underlying31 rfl (by rw [Tryf.size31, ctx_size]) ?_)
    | (refine wpList_store_blk rfl 31 (.tmp 2) (.tmp 17) rfl w.heap.size (ctxOf s) rfl rfl 31 zeroCtx hr2 (by rw [Tryf.size31, ctx_size]) (by rw [ctx_size]; rfl) (ctx_one s) ?_; intro w3 hb3 hg3))
  exact bodyPost_ret (v := .tuple #[.agg (ctxOf s), .nilIface]) (results_ctx Tryf.results6 _ w3 w.heap.size (ctxOf s) .nilIface rfl rfl hb3 (ctx_size s)) rfl ⟨rfl, below_grown hbel2 hg3 (by omega)⟩
set_option maxHeartbeats 1000000 in
theorem top_no (s : ByteArray) (w : World) (hlen : s.size ≤ 200000) (h : ¬ Valid s) :
    Calls Tryf.prog 6 #[.string s] w fun e w' => ∃ t a, e = .returned (.tuple #[.agg zeroCtx, .iface t (.pointer (some a))]) ∧ Below w.heap.size w w' := by
  have HV : Hid (¬ Valid s) := h
  clear h
  go_enter Tryf.func6, Tryf.ntmps6
  go_wp2_with fail
  refine (parse_no s _ hlen HV.out).mono ?_
  rintro e w1 ⟨v, rfl, hv, hb⟩
  have HE : Hid (IsErr (w.alloc (.cells zeroCtx 31)).heap.size w1 v) := hv
  obtain ⟨t, a, rfl⟩ := isErr_ne hv
  clear hv
  go_wp2_with (refine wpList_store_blk rfl 31 (.tmp 4) (.tmp 9) rfl w1.heap.size zeroCtx rfl rfl 31 zeroCtx (heap_alloc_new _ _) Tryf.size31 rfl zeroCtx_one ?_; intro w2 hb2 hg2; obtain ⟨hr2, hbel2, hsz1, hsz2⟩ := after_lay hb hg2; have HE2 : Hid (IsErr (w.heap.size + 1) w2 (.iface t (.pointer (some a)))) := isErr_lay HE.out hg2; clear hb hg2 hb2)
  refine (errorf_err _ _ _ _ Tryf.fmtTop (by simp) (isErr_alloc HE2.out)).mono ?_
  rintro e wE ⟨v, rfl, hvE, hbE⟩
  have hbX := below_of_alloc hbE
  obtain ⟨hresE, hbelE, hszE⟩ := exit_facts hr2 hbel2 (by omega) hbX
  obtain ⟨t', a', rfl⟩ := isErr_ne hvE
  clear hbX hvE hbE
  go_wp2_with (refine wpList_store_blk rfl 31 (.tmp 2) (.tmp 13) rfl w.heap.size zeroCtx rfl rfl 31 zeroCtx hresE Tryf.size31 rfl zeroCtx_one ?_; intro w3 hb3 hg3)
  exact bodyPost_ret (v := .tuple #[.agg zeroCtx, .iface t' (.pointer (some a'))]) (results_ctx Tryf.results6 _ w3 w.heap.size zeroCtx _ rfl rfl hb3 rfl) rfl ⟨t', a', rfl, below_grown hbelE hg3 (by omega)⟩
end Go.Proofs.Qxb6614691aFmt
