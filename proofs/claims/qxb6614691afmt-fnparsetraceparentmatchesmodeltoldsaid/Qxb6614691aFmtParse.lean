/- The contract of parseTraceparent (9). -/
import Derived.Test.Qxb6614691aFmtBlk
import Derived.Deep.RegionHeld3
import Derived.Deep.RegionWith
import Derived.Deep.MidRow
import Derived.Laws.ResultCell
namespace Go.Proofs.Qxb6614691aFmt
open Go.RowKit Go.Extern.Stop Go.Stop Go.Extern
theorem Tryf.fmtA (w : World) : (FmtDoors.printed ⟨#[37, 100, 32, 99, 104, 97, 114, 97, 99, 116, 101, 114, 115, 44, 32, 119, 97, 110, 116, 32, 97, 116, 32, 108, 101, 97, 115, 116, 32, 37, 100]⟩ 2).run Tryf.prog w = .ok [(0, 100, false), (1, 100, false)] w := by kernel_rfl
theorem Tryf.fmtB (w : World) : (FmtDoors.printed ⟨#[118, 101, 114, 115, 105, 111, 110, 58, 32, 37, 119]⟩ 1).run Tryf.prog w = .ok [(0, 119, false)] w := by kernel_rfl
theorem Tryf.fmtC (w : World) : (FmtDoors.printed ⟨#[118, 101, 114, 115, 105, 111, 110, 32, 48, 48, 32, 116, 97, 107, 101, 115, 32, 37, 100, 32, 99, 104, 97, 114, 97, 99, 116, 101, 114, 115, 44, 32, 103, 111, 116, 32, 37, 100]⟩ 2).run Tryf.prog w = .ok [(0, 100, false), (1, 100, false)] w := by kernel_rfl
theorem Tryf.fmtD (w : World) : (FmtDoors.printed ⟨#[99, 104, 97, 114, 97, 99, 116, 101, 114, 32, 37, 100, 44, 32, 97, 102, 116, 101, 114, 32, 116, 104, 101, 32, 102, 108, 97, 103, 115, 44, 32, 105, 115, 32, 110, 111, 116, 32, 39, 45, 39]⟩ 1).run Tryf.prog w = .ok [(0, 100, false)] w := by kernel_rfl
theorem Tryf.fmtT (w : World) : (FmtDoors.printed ⟨#[116, 114, 97, 99, 101, 32, 105, 100, 58, 32, 37, 119]⟩ 1).run Tryf.prog w = .ok [(0, 119, false)] w := by kernel_rfl
theorem Tryf.fmtP (w : World) : (FmtDoors.printed ⟨#[112, 97, 114, 101, 110, 116, 32, 105, 100, 58, 32, 37, 119]⟩ 1).run Tryf.prog w = .ok [(0, 119, false)] w := by kernel_rfl
theorem Tryf.fmtG (w : World) : (FmtDoors.printed ⟨#[116, 114, 97, 99, 101, 32, 102, 108, 97, 103, 115, 58, 32, 37, 119]⟩ 1).run Tryf.prog w = .ok [(0, 119, false)] w := by kernel_rfl
def zeroCtx : Array Value := #[.int .u8 0, .int .u8 0, .int .u8 0, .int .u8 0, .int .u8 0, .int .u8 0, .int .u8 0, .int .u8 0, .int .u8 0, .int .u8 0, .int .u8 0, .int .u8 0, .int .u8 0, .int .u8 0, .int .u8 0, .int .u8 0, .int .u8 0, .int .u8 0, .int .u8 0, .int .u8 0, .int .u8 0, .int .u8 0, .int .u8 0, .int .u8 0, .int .u8 0, .string ⟨#[]⟩, .bool false]
theorem zeroCtx_one : zeroCtx.all (·.oneCell') = true := by kernel_rfl
/-- a whole struct or array stored at the head of its own block -/
theorem wpList_store_blk {P : Program} {ops : Array Oper} {rest : List Oper} {o : Oper} {a : Act} {w : World} {Q : Exit → Act → World → Prop} (hgd : o.guard = none) (ty : TypeId) (x y : Operand) (ho : o.op = .store ty x y)
    (g : Nat) (cells : Array Value) (hx : a.eval x = .pointer (some ⟨g, 0, none⟩)) (hy : a.eval y = .agg cells)
    (t : TypeId) (old : Array Value) (hg : w.heap[g]? = some (.cells old t (0, 0))) (hi : (P.info? ty).map (·.size) = some cells.size)
    (hold : old.size = cells.size) (h1 : cells.all (·.oneCell') = true)
    (h : ∀ w1, w1.heap[g]? = some (.cells cells t (0, 0)) → w.grownBy w1 (some g) → wpList P ops Q rest (a.put o.dst undef) w1) : wpList P ops Q (o :: rest) a w :=
  wpList_plain hgd fun _ hK => wp_store_row ty x y ho g cells hx hy t old hg hi hold h1
    (hK _ _ (h (w.setRow g cells) (setRow_heap w g old cells t (0, 0) hg) ⟨rfl, rfl, rfl, by simp, fun k _ hk => setRow_other w g k cells (fun e => hk (by rw [e]))⟩))
theorem Tryf.size31 : (Tryf.prog.info? 31).map (·.size) = some 27 := by kernel_rfl
/-- the results of a function that hands back a SpanContext and an error -/
theorem results_ctx {fn : Func} {p u : Tmp} (h : fn.results = #[.cell p 31, .tmp u]) (tmps : Array Value) (w : World) (g : Nat) (cs : Array Value) (v : Value)
    (hp : tmps.getD p undef = .pointer (some ⟨g, 0, none⟩)) (hu : tmps.getD u undef = v) (hg : w.heap[g]? = some (.cells cs 31 (0, 0))) (hs : cs.size = 27) :
    (results fn tmps).run Tryf.prog w = .ok (.tuple #[.agg cs, v]) w := by
  rw [results_cell_tmp h, hp, hu]
  have h2 := run_loadVar_row (P := Tryf.prog) w g 31 31 cs (0, 0) _ hg Tryf.underlying31 rfl (by rw [Tryf.size31, hs])
  simp [asAddr, Result.andThen, h2]
/-- the way out by an error: the zero SpanContext beside it -/
theorem keep_blk {w w' : World} {B : Nat} {o : Obj} (hb : Below B w w') (k : Nat) (hk : k < B) (h : w.heap[k]? = some o) : w'.heap[k]? = some o := by rw [hb.block k hk, h]
theorem below_grown {B : Nat} {w w1 w2 : World} (hb : Below B w w1) (hg : w1.grownBy w2 (some B)) (hsz : B ≤ w1.heap.size) : Below B w w2 :=
  hb.grown hg hsz (fun k h => by cases h; exact Nat.le_refl _)
/-- an error stays one where only another block was written -/
theorem isErr_grown {lo : Nat} {w w' : World} {v : Value} {g : Nat} (h : IsErr lo w v) (hg : w.grownBy w' (some g)) (hne : g < lo) : IsErr lo w' v := by
  obtain ⟨a, s, hv, hc, hb, hl⟩ := h
  exact ⟨a, s, hv, hg.cell hc (by simp; omega), Nat.lt_of_lt_of_le hb hg.size, hl⟩
theorem isErr_below {lo B : Nat} {w w' : World} {v : Value} (h : IsErr lo w v) (hb : Below B w w') (hB : w.heap.size ≤ B) : IsErr lo w' v := by
  obtain ⟨a, s, hv, hc, hl, hlo⟩ := h
  exact ⟨a, s, hv, (hb.cell (by omega)).trans hc, Nat.lt_of_lt_of_le hl hb.size, hlo⟩
set_option maxHeartbeats 1000000 in
theorem parse_short (s : ByteArray) (w : World) (hs : s.size < 55) :
    Calls Tryf.prog 9 #[.string s] w fun e w' => ∃ v, e = .returned (.tuple #[.agg zeroCtx, v]) ∧ IsErr w.heap.size w' v ∧ Below w.heap.size w w' := by
  go_enter Tryf.func9, Tryf.ntmps9
  go_wp2_with fail
  refine (errorf_two _ _ (s.size : Int) 55 _ Tryf.fmtA (by simp) (by simp)).mono ?_
  rintro e w2 ⟨v, rfl, hv, hb⟩
  have hblk : w2.heap[w.heap.size]? = some (.cells zeroCtx 31 (0, 0)) := keep_blk hb _ (by simp; omega) (heap_alloc2_old _ _ _)
  have hbel : Below w.heap.size w w2 := (((Below.refl _ _).alloc (Nat.le_refl _) _).alloc (by simp) _).trans (hb.mono (by simp; omega))
  have hsz := hbel.size
  have HV : Hid (IsErr (w.heap.size + 1) w2 v) := hv.low (by simp)
  clear hb hv
  go_wp2_with (refine wpList_store_blk rfl 31 (.tmp 2) (.tmp 14) rfl w.heap.size zeroCtx rfl rfl 31 zeroCtx hblk Tryf.size31 rfl zeroCtx_one ?_; intro w3 hb3 hg3)
  exact bodyPost_ret (v := .tuple #[.agg zeroCtx, v]) (results_ctx Tryf.results9 _ w3 w.heap.size zeroCtx v rfl rfl hb3 rfl) rfl ⟨v, rfl, (isErr_grown HV.out hg3 (by omega)).low (by omega), below_grown hbel hg3 hsz⟩
/-- what ParseTraceparent accepts -/
structure Valid (s : ByteArray) : Prop where
  len : 55 ≤ s.size
  ver : goodAt s 0 ∧ goodAt s 1
  ff : pair s 0 ≠ 255
  zero : pair s 0 = 0 → s.size = 55
  tail : 55 < s.size → byt s 55 = 45
  sep : byt s 2 = 45 ∧ byt s 35 = 45 ∧ byt s 52 = 45
  tr : ∀ j, j < 32 → goodAt s (3 + j)
  trn : ∃ j, j < 16 ∧ pair s (3 + 2 * j) ≠ 0
  sp : ∀ j, j < 16 → goodAt s (36 + j)
  spn : ∃ j, j < 8 ∧ pair s (36 + 2 * j) ≠ 0
  fl : goodAt s 53 ∧ goodAt s 54
def Bad (w : World) (e : Ending) (w' : World) : Prop := ∃ v, e = .returned (.tuple #[.agg zeroCtx, v]) ∧ IsErr w.heap.size w' v ∧ Below w.heap.size w w'
theorem good2 {s : ByteArray} {a : Nat} (h : goodAt s a ∧ goodAt s (a + 1)) (b : Nat) (hb : b = a + 2) : ∀ j, j < 2 * 1 → goodAt (s.extract a b) j := by
  intro j hj
  rw [good_extract s a b j (by omega)]
  rcases (show j = 0 ∨ j = 1 by omega) with rfl | rfl
  · exact h.1
  · exact h.2
theorem bad2 {s : ByteArray} {a : Nat} (h : ¬ (goodAt s a ∧ goodAt s (a + 1))) (b : Nat) (hb : b = a + 2) : ¬ ∀ j, j < 2 * 1 → goodAt (s.extract a b) j := by
  intro hall
  exact h ⟨(good_extract s a b 0 (by omega)).1 (hall 0 (by omega)), (good_extract s a b 1 (by omega)).1 (hall 1 (by omega))⟩
theorem exit_facts {w wk wE : World} (hres : wk.heap[w.heap.size]? = some (.cells zeroCtx 31 (0, 0))) (hbel : Below w.heap.size w wk) (hsz : w.heap.size + 1 ≤ wk.heap.size) (hb : Below wk.heap.size wk wE) :
    wE.heap[w.heap.size]? = some (.cells zeroCtx 31 (0, 0)) ∧ Below w.heap.size w wE ∧ w.heap.size + 1 ≤ wE.heap.size :=
  ⟨by rw [hb.block _ (by omega)]; exact hres, hbel.trans (hb.mono (by omega)), by have := hb.size; omega⟩
theorem below_of_alloc {wk wE : World} {o : Obj} (hb : Below (wk.alloc o).heap.size (wk.alloc o) wE) : Below wk.heap.size wk wE :=
  ((Below.refl _ _).alloc (Nat.le_refl _) o).trans (hb.mono (by simp))
theorem isErr_alloc {lo : Nat} {w : World} {v : Value} {o : Obj} (h : IsErr lo w v) : IsErr lo (w.alloc o) v :=
  isErr_below h ((Below.refl _ _).alloc (Nat.le_refl _) o) (Nat.le_refl _)
/-- behind the decoding of the version -/
theorem after_ver {w w2 : World} {c : Array Value} (hg : (((w.alloc (.cells zeroCtx 31)).alloc (.cells c 41)).drew).grownBy w2 (some (w.heap.size + 1))) :
    w2.heap[w.heap.size]? = some (.cells zeroCtx 31 (0, 0)) ∧ Below w.heap.size w w2 ∧ w.heap.size + 2 ≤ w2.heap.size := by
  have hs := hg.size
  simp at hs
  refine ⟨?_, ?_, by omega⟩
  · rw [hg.block w.heap.size (by simp; omega) (by simp)]
    exact heap_alloc2_old _ _ _
  · exact ((((Below.refl _ _).alloc (Nat.le_refl _) _).alloc (by simp) _).drew).grown hg (by simp; omega) (fun k h => by cases h; omega)
set_option maxHeartbeats 1000000 in
theorem parse_ver (s : ByteArray) (w : World) (h55 : 55 ≤ s.size) (hv : ¬ (goodAt s 0 ∧ goodAt s 1)) :
    Calls Tryf.prog 9 #[.string s] w fun e w' => Bad w e w' := by
  have HB : Hid (¬ ∀ j, j < 2 * 1 → goodAt (s.extract 0 2) j) := bad2 hv 2 rfl
  clear hv
  go_enter Tryf.func9, Tryf.ntmps9
  go_wp2_with fail
  go_region_with (go_at_call 11; refine (hex_no (s.extract 0 2) 41 (w.heap.size + 1) 0 1 1 1 [.int .u8 0] _ (by omega) (by simp; omega) (by omega) (by omega) rfl ?_ HB.out).mono ?_; exact heap_alloc2_new _ _ _; rintro e w2 ⟨t, a, rfl, hv2, hg2⟩)
  obtain ⟨hres, hbel, hsz⟩ := after_ver hg2
  have HV : Hid (IsErr (w.heap.size + 2) w2 (.iface t (.pointer (some a)))) := hv2.low (by simp)
  clear hg2 hv2
  go_wp2_with fail
  refine (errorf_err _ _ _ _ Tryf.fmtB (by simp) (isErr_alloc HV.out)).mono ?_
  rintro e wE ⟨v, rfl, hvE, hbE⟩
  have hbX := below_of_alloc hbE
  clear hbE
  obtain ⟨hresE, hbelE, hszE⟩ := exit_facts hres hbel (by omega) hbX
  have HE : Hid (IsErr (w.heap.size + 1) wE v) := hvE.low (by simp; omega)
  clear hbX hvE
  go_wp2_with (refine wpList_store_blk rfl 31 (.tmp 2) (.tmp 27) rfl w.heap.size zeroCtx rfl rfl 31 zeroCtx hresE Tryf.size31 rfl zeroCtx_one ?_; intro w3 hb3 hg3)
  exact bodyPost_ret (v := .tuple #[.agg zeroCtx, v]) (results_ctx Tryf.results9 _ w3 w.heap.size zeroCtx v rfl rfl hb3 rfl) rfl ⟨v, rfl, (isErr_grown HE.out hg3 (by omega)).low (by omega), below_grown hbelE hg3 (by omega)⟩
theorem ver_block {s : ByteArray} : (splice [.int .u8 0] 0 (vals (s.extract 0 2) 1)).toArray = #[.int .u8 (pair s 0)] := by
  simp [splice, vals, pair_extract s 0 2 0 (by omega)]
/-- the SpanContext that a valid text carries -/
def trL (s : ByteArray) : List Value := (List.range 16).map fun k => .int .u8 (pair s (3 + 2 * k))
def spL (s : ByteArray) : List Value := (List.range 8).map fun k => .int .u8 (pair s (36 + 2 * k))
def flV (s : ByteArray) : Value := .int .u8 (bits .and .u8 (pair s 53) 3)
def ctxOf (s : ByteArray) : Array Value := (trL s ++ spL s ++ [flV s, .string ⟨#[]⟩, .bool false]).toArray
/-- the head's conditions -/
structure Header (s : ByteArray) : Prop where
  ff : pair s 0 ≠ 255
  zero : pair s 0 = 0 → s.size = 55
  tail : 55 < s.size → byt s 55 = 45
  sep : byt s 2 = 45 ∧ byt s 35 = 45 ∧ byt s 52 = 45
set_option maxHeartbeats 4000000 in
theorem parse_early (s : ByteArray) (w : World) (h55 : 55 ≤ s.size) (hlen : s.size ≤ 200000) (hv : goodAt s 0 ∧ goodAt s 1) (hbad : ¬ Header s) :
    Calls Tryf.prog 9 #[.string s] w fun e w' => Bad w e w' := by
  have HBAD : Hid (¬ Header s) := hbad
  clear hbad
  have HB : Hid (∀ j, j < 2 * 1 → goodAt (s.extract 0 2) j) := good2 hv 2 rfl
  have HVER : Hid (goodAt s 0 ∧ goodAt s 1) := hv
  have hb55 : ((s.size : Int) < 55) = False := by simp; omega
  clear hv
  go_enter Tryf.func9, Tryf.ntmps9
  go_wp2_with fail
  go_region_with (go_at_call 11; refine (hex_yes (s.extract 0 2) 41 (w.heap.size + 1) 0 1 1 1 [.int .u8 0] _ (by omega) (by simp; omega) (by omega) (by omega) rfl ?_ HB.out).mono ?_; exact heap_alloc2_new _ _ _; rintro e w2 ⟨rfl, hg2, hc2⟩)
  obtain ⟨hres, hbel, hsz⟩ := after_ver hg2
  rw [ver_block] at hc2
  have hcv : w2.cell? ⟨w.heap.size + 1, 0, none⟩ = some (.int .u8 (pair s 0)) := by rw [cell_of_row _ _ _ _ _ _ hc2]; rfl
  clear hg2 hc2 HB
  by_cases hff : pair s 0 = 255
  · have hq : (pair s 0 == 255) = true := by simpa using hff
    clear hff
    go_wp2_with fail
    refine (new_any _ _).mono ?_
    rintro e wE ⟨v, rfl, hvE, hbX⟩
    obtain ⟨hresE, hbelE, hszE⟩ := exit_facts hres hbel (by omega) hbX
    have HE : Hid (IsErr (w.heap.size + 1) wE v) := hvE.low (by omega)
    clear hbX hvE
    go_wp2_with (refine wpList_store_blk rfl 31 (.tmp 2) (.tmp 35) rfl w.heap.size zeroCtx rfl rfl 31 zeroCtx hresE Tryf.size31 rfl zeroCtx_one ?_; intro w3 hb3 hg3)
    exact bodyPost_ret (v := .tuple #[.agg zeroCtx, v]) (results_ctx Tryf.results9 _ w3 w.heap.size zeroCtx v rfl rfl hb3 rfl) rfl ⟨v, rfl, (isErr_grown HE.out hg3 (by omega)).low (by omega), below_grown hbelE hg3 (by omega)⟩
  have hq : (pair s 0 == 255) = false := by simpa using hff
  have HFF : Hid (pair s 0 ≠ 255) := hff
  clear hff
  by_cases hz : pair s 0 = 0 ∧ s.size ≠ 55
  · have hq1 : (pair s 0 == 0) = true := by simpa using hz.1
    have hq2 : ((s.size : Int) != 55) = true := by have := hz.2; simp; omega
    clear hz
    go_wp2_with fail
    refine (errorf_two _ _ (55) ((s.size : Int)) _ Tryf.fmtC (by simp) (by simp)).mono ?_
    rintro e wE ⟨v, rfl, hvE, hbE⟩
    have hbX := below_of_alloc hbE
    clear hbE
    obtain ⟨hresE, hbelE, hszE⟩ := exit_facts hres hbel (by omega) hbX
    have HE : Hid (IsErr (w.heap.size + 1) wE v) := hvE.low (by simp; omega)
    clear hbX hvE
    go_wp2_with (refine wpList_store_blk rfl 31 (.tmp 2) (.tmp 46) rfl w.heap.size zeroCtx rfl rfl 31 zeroCtx hresE Tryf.size31 rfl zeroCtx_one ?_; intro w3 hb3 hg3)
    exact bodyPost_ret (v := .tuple #[.agg zeroCtx, v]) (results_ctx Tryf.results9 _ w3 w.heap.size zeroCtx v rfl rfl hb3 rfl) rfl ⟨v, rfl, (isErr_grown HE.out hg3 (by omega)).low (by omega), below_grown hbelE hg3 (by omega)⟩
  have HZ : Hid (¬ (pair s 0 = 0 ∧ s.size ≠ 55)) := hz
  have hz' : (pair s 0 == 0) = false ∨ ((pair s 0 == 0) = true ∧ ((s.size : Int) != 55) = false) := by
    by_cases h0 : pair s 0 = 0
    · right
      have : s.size = 55 := Classical.byContradiction fun h => hz ⟨h0, h⟩
      simp [h0, this]
    · left; simpa using h0
  clear hz
  by_cases ht : 55 < s.size ∧ byt s 55 ≠ 45
  · have hq3 : (55 : Int) < (s.size : Int) := by omega
    have hl55 : 55 < s.size := ht.1
    have hq4 : ((s[55].toNat : Int) != 45) = true := by rw [byt_eq s 55 ht.1]; simpa using ht.2
    clear ht
    rcases hz' with hz1 | ⟨hz1, hz2⟩
    · skip
      go_wp2_with fail
      refine (errorf_one _ _ (56) _ Tryf.fmtD (by simp)).mono ?_
      rintro e wE ⟨v, rfl, hvE, hbE⟩
      have hbX := below_of_alloc hbE
      clear hbE
      obtain ⟨hresE, hbelE, hszE⟩ := exit_facts hres hbel (by omega) hbX
      have HE : Hid (IsErr (w.heap.size + 1) wE v) := hvE.low (by simp; omega)
      clear hbX hvE
      go_wp2_with (refine wpList_store_blk rfl 31 (.tmp 2) (.tmp 62) rfl w.heap.size zeroCtx rfl rfl 31 zeroCtx hresE Tryf.size31 rfl zeroCtx_one ?_; intro w3 hb3 hg3)
      exact bodyPost_ret (v := .tuple #[.agg zeroCtx, v]) (results_ctx Tryf.results9 _ w3 w.heap.size zeroCtx v rfl rfl hb3 rfl) rfl ⟨v, rfl, (isErr_grown HE.out hg3 (by omega)).low (by omega), below_grown hbelE hg3 (by omega)⟩
    · exfalso
      simp at hz2; omega
  have HT : Hid (¬ (55 < s.size ∧ byt s 55 ≠ 45)) := ht
  have hcase : ((pair s 0 == 0) = false ∧ ∃ h : 55 < s.size, ((s[55].toNat : Int) != 45) = false) ∨ ((pair s 0 == 0) = false ∧ s.size ≤ 55) ∨ ((pair s 0 == 0) = true ∧ ((s.size : Int) != 55) = false ∧ s.size ≤ 55) := by
    by_cases h : 55 < s.size
    · left
      have : byt s 55 = 45 := Classical.byContradiction fun h' => ht ⟨h, h'⟩
      rcases hz' with hz1 | ⟨hz1, hz2⟩
      · exact ⟨hz1, h, by rw [byt_eq s 55 h]; simp [this]⟩
      · exfalso; simp at hz2; omega
    · right
      rcases hz' with hz1 | ⟨hz1, hz2⟩
      · exact Or.inl ⟨hz1, by omega⟩
      · exact Or.inr ⟨hz1, hz2, by omega⟩
  clear ht hz'
  by_cases hsep : byt s 2 = 45 ∧ byt s 35 = 45 ∧ byt s 52 = 45
  case neg =>
    have h' : ((s[2].toNat : Int) != 45) = true ∨ (((s[2].toNat : Int) != 45) = false ∧ ((s[35].toNat : Int) != 45) = true) ∨ (((s[2].toNat : Int) != 45) = false ∧ ((s[35].toNat : Int) != 45) = false ∧ ((s[52].toNat : Int) != 45) = true) := by
      rw [byt_eq s 2 (by omega), byt_eq s 35 (by omega), byt_eq s 52 (by omega)]
      by_cases h2 : byt s 2 = 45
      · by_cases h35 : byt s 35 = 45
        · right; right
          have h52 : byt s 52 ≠ 45 := fun h => hsep ⟨h2, h35, h⟩
          simp [h2, h35, h52]
        · right; left; simp [h2, h35]
      · left; simp [h2]
    clear hsep
    rcases hcase with ⟨hz1, hl55, hq4⟩ | ⟨hz1, hl55⟩ | ⟨hz1, hz2, hl55⟩
    all_goals
      rcases h' with h2 | ⟨h2, h35⟩ | ⟨h2, h35, h52⟩
    all_goals
      skip
      go_wp2_with fail
      refine (new_any _ _).mono ?_
      rintro e wE ⟨v, rfl, hvE, hbX⟩
      obtain ⟨hresE, hbelE, hszE⟩ := exit_facts hres hbel (by omega) hbX
      have HE : Hid (IsErr (w.heap.size + 1) wE v) := hvE.low (by omega)
      clear hbX hvE
      go_wp2_with (refine wpList_store_blk rfl 31 (.tmp 2) (.tmp 79) rfl w.heap.size zeroCtx rfl rfl 31 zeroCtx hresE Tryf.size31 rfl zeroCtx_one ?_; intro w3 hb3 hg3)
      exact bodyPost_ret (v := .tuple #[.agg zeroCtx, v]) (results_ctx Tryf.results9 _ w3 w.heap.size zeroCtx v rfl rfl hb3 rfl) rfl ⟨v, rfl, (isErr_grown HE.out hg3 (by omega)).low (by omega), below_grown hbelE hg3 (by omega)⟩
  case pos =>
    exact absurd ⟨HFF.out, fun h0 => Classical.byContradiction fun h => HZ.out ⟨h0, h⟩, fun h => Classical.byContradiction fun h' => HT.out ⟨h, h'⟩, hsep⟩ HBAD.out
end Go.Proofs.Qxb6614691aFmt
