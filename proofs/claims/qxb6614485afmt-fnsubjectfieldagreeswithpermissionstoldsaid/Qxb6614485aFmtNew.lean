/- ZZNewEnforcerOfP (8): maps of one entry. -/
import Derived.Test.Qxb6614485aFmtRowsC
import Derived.WideMake
namespace Go.Proofs.Qxb6614485aFmt
open Go.RowKit
/-- the first entry of a map -/
theorem wpList_insert_first {P : Program} {ops : Array Oper} {rest : List Oper} {o : Oper} {a : Act} {w : World} {Q : Exit → Act → World → Prop} (hgd : o.guard = none) (t : TypeId) (m k x : Operand) (ho : o.op = .insert t m k x)
    (r : Nat) (s : ByteArray) (v : Value) (hm : a.eval m = .map (some r)) (hk : a.eval k = .string s) (hv : a.eval x = v) (kt et : TypeId) (hu : P.underlying t = some (.map kt et)) (hs : P.underlying kt = some .string) (hb : w.heap[r]? = some (.map #[] 0))
    (h : ∀ w1, w1.heap[r]? = some (.map #[{ key := .string s, val := v, born := 0 }] 1) → w.grownBy w1 (some r) → wpList P ops Q rest (a.put o.dst undef) w1) : wpList P ops Q (o :: rest) a w := by
  refine wpList_plain hgd fun _ hK => ?_
  have hr := run_mapUpdate_first (P := P) w t kt et r 0 s v hu hs hb
  unfold Oper.wp execOp
  simp only [ho, hm, hk, hv, Sem.run_bind, Sem.run_pure, Result.andThen_ok, hr]
  exact hK _ _ (h _ (MapKept.heap_set hb).1 ⟨rfl, rfl, rfl, by simp, fun j _ hj => (MapKept.heap_set hb).2 j (fun e => hj (by rw [e]))⟩)
/-- the one entry, looked up -/
theorem run_lookup_one {P : Program} (w : World) (t kt et : TypeId) (r c b : Nat) (v : Value) (hu : P.underlying t = some (.map kt et)) (hs : P.underlying kt = some .string) (hb : w.heap[r]? = some (.map #[{ key := .string ⟨#[112]⟩, val := v, born := b }] c)) :
    (Instr.lookup t (.map (some r)) (.string ⟨#[112]⟩) false).run P w = .ok v w := by
  have hf : Instr.findNow .string (.string ⟨#[112]⟩) [({ key := .string ⟨#[112]⟩, val := v, born := b } : MapEntry)] 0 = some (some (0, v)) := rfl
  have hc : ∀ e, (Instr.checkKey e 10000 kt (.string ⟨#[112]⟩)).run P w = .ok () w := fun e => MapKept.run_checkKey (k := .string ⟨#[112]⟩) hs (by simp [MapKept.IsKey]) e 9999
  simp [Instr.lookup, run_underlying hu, MapKept.run_getObj_map hb, hc, MapKept.run_findKey hs hf, Result.andThen]
theorem new4 (w : World) (a b c d : Obj) : ((((w.alloc a).alloc b).alloc c).alloc d).heap[w.heap.size + 1 + 1 + 1]? = some d := by
  have h := heap_alloc_new (((w.alloc a).alloc b).alloc c) d
  simp only [World.size_alloc] at h
  exact h
/-- an enforcer at block E: its model at Mo, its policy at Po, the maps of one entry each -/
structure Enf (w : World) (E Mo Po mT mR : Nat) (vF vR : Value) (sub rc : Int) : Prop where
  e : w.heap[E]? = some (.cells #[.pointer (some ⟨Mo, 0, none⟩), .int .i32 0, .int .u32 0, .int .u32 0, .int .u32 0, .int .i32 rc, .int .i32 0, .pointer (some ⟨Po, 0, none⟩), .string ⟨#[]⟩, .int .i32 0, .int .u32 0] 69 (0, 0))
  mo : ∃ o r eft, w.heap[Mo]? = some (.cells #[.slice none 0 0, .map (some mT), o, r, eft, .int .i64 sub, .int .i64 (-1), .int .i64 0, .pointer none] 43 (0, 0))
  mt : w.heap[mT]? = some (.map #[{ key := .string ⟨#[112]⟩, val := vF, born := 0 }] 1)
  po : w.heap[Po]? = some (.cells #[.map (some mR), .pointer none, .slice none 0 0, .slice none 0 0, .map none, .map none] 55 (0, 0))
  mr : w.heap[mR]? = some (.map #[{ key := .string ⟨#[112]⟩, val := vR, born := 0 }] 1)
theorem blk_lt {w : World} {k : Nat} {o : Obj} (h : w.heap[k]? = some o) : k < w.heap.size := (Array.getElem?_eq_some_iff.1 h).1
theorem Enf.keep {w w' : World} {E Mo Po mT mR : Nat} {vF vR : Value} {sub rc : Int} (h : Enf w E Mo Po mT mR vF vR sub rc) (hb : Below w.heap.size w w') : Enf w' E Mo Po mT mR vF vR sub rc := by
  obtain ⟨o, r, eft, hm⟩ := h.mo
  exact ⟨by rw [hb.block _ (blk_lt h.e)]; exact h.e, ⟨o, r, eft, by rw [hb.block _ (blk_lt hm)]; exact hm⟩, by rw [hb.block _ (blk_lt h.mt)]; exact h.mt, by rw [hb.block _ (blk_lt h.po)]; exact h.po, by rw [hb.block _ (blk_lt h.mr)]; exact h.mr⟩
theorem new_facts {w w1 w2 : World} {vF vR : Value} {A : Array Value} {sub : Int} {O R F : Value} (hA : A = #[.slice none 0 0, .map (some w.heap.size), O, R, F, .int .i64 sub, .int .i64 (-1), .int .i64 0, .pointer none]) {s : Obj} {m : Obj}
    (h1 : w1.heap[w.heap.size]? = some (.map #[{ key := .string ⟨#[112]⟩, val := vF, born := 0 }] 1)) (g1 : (w.alloc (.map #[] 0)).grownBy w1 (some w.heap.size))
    (h2 : w2.heap[w1.heap.size + 1 + 1 + 1]? = some (.map #[{ key := .string ⟨#[112]⟩, val := vR, born := 0 }] 1)) (g2 : ((((w1.alloc s).alloc m).alloc (.cells A 43)).alloc (.map #[] 0)).grownBy w2 (some (w1.heap.size + 1 + 1 + 1))) :
    Enf ((w2.alloc (.cells #[.map (some (w1.heap.size + 1 + 1 + 1)), .pointer none, .slice none 0 0, .slice none 0 0, .map none, .map none] 55)).alloc (.cells #[.pointer (some ⟨w1.heap.size + 1 + 1, 0, none⟩), .int .i32 0, .int .u32 0, .int .u32 0, .int .u32 0, .int .i32 0, .int .i32 0, .pointer (some ⟨w2.heap.size, 0, none⟩), .string ⟨#[]⟩, .int .i32 0, .int .u32 0] 69))
      (w2.heap.size + 1) (w1.heap.size + 1 + 1) w2.heap.size w.heap.size (w1.heap.size + 1 + 1 + 1) vF vR sub 0 ∧
    Below w.heap.size w ((w2.alloc (.cells #[.map (some (w1.heap.size + 1 + 1 + 1)), .pointer none, .slice none 0 0, .slice none 0 0, .map none, .map none] 55)).alloc (.cells #[.pointer (some ⟨w1.heap.size + 1 + 1, 0, none⟩), .int .i32 0, .int .u32 0, .int .u32 0, .int .u32 0, .int .i32 0, .int .i32 0, .pointer (some ⟨w2.heap.size, 0, none⟩), .string ⟨#[]⟩, .int .i32 0, .int .u32 0] 69)) := by
  have z1 := g1.size
  have z2 := g2.size
  simp at z1 z2
  have old : ∀ j, j < w1.heap.size + 3 → w2.heap[j]? = (((w1.alloc s).alloc m).alloc (.cells A 43)).heap[j]? := fun j hj => by
    rw [g2.block j (by simp; omega) (by simp; omega)]
    exact Below.heap_alloc _ _ _ (by simp; omega)
  refine ⟨⟨heap_alloc2_new _ _ _, ⟨O, R, F, ?_⟩, ?_, heap_alloc2_old _ _ _, ?_⟩, ?_⟩
  · rw [Below.heap_alloc _ _ _ (by simp; omega), Below.heap_alloc _ _ _ (by omega), old _ (by omega), ← hA]
    have h := heap_alloc_new ((w1.alloc s).alloc m) (.cells A 43)
    simp only [World.size_alloc] at h
    exact h
  · rw [Below.heap_alloc _ _ _ (by simp; omega), Below.heap_alloc _ _ _ (by omega), old _ (by omega), Below.heap_alloc _ _ _ (by simp; omega), Below.heap_alloc _ _ _ (by simp; omega), Below.heap_alloc _ _ _ (by omega)]
    exact h1
  · rw [Below.heap_alloc _ _ _ (by simp; omega), Below.heap_alloc _ _ _ (by have := blk_lt h2; omega)]
    exact h2
  · have b1 : Below w.heap.size w w1 := ((Below.refl _ _).alloc (Nat.le_refl _) _).grown g1 (by simp) (fun k h => by cases h; exact Nat.le_refl _)
    have b2 : Below w.heap.size w w2 := ((((b1.alloc (by omega) s).alloc (by simp; omega) m).alloc (by simp; omega) _).alloc (by simp; omega) _).grown g2 (by simp; omega) (fun k h => by cases h; omega)
    exact (b2.alloc (by omega) _).alloc (by simp; omega) _
set_option maxHeartbeats 1000000 in
set_option maxRecDepth 100000 in
theorem new_any (vF vR : Value) (eft sub : Int) (w : World) : Calls Tryf.prog 8 #[vF, .int .i64 eft, .int .i64 sub, vR] w fun e w' => ∃ E Mo Po mT mR, e = .returned (.pointer (some ⟨E, 0, none⟩)) ∧ Enf w' E Mo Po mT mR vF vR sub 0 ∧ w.heap.size ≤ E ∧ Below w.heap.size w w' := by
  have hmm := @run_makeMap Tryf.prog
  go_enter Tryf.func8, Tryf.ntmps8
  go_wp2_with (first
    | (refine wpList_insert_first rfl 46 (.tmp 18) _ (.tmp 19) rfl (w1.heap.size + 1 + 1 + 1) ⟨#[112]⟩ vR rfl rfl rfl 9 23 Tryf.underlying46 Tryf.underlying9 (by exact new4 _ _ _ _ _) ?_; intro w2 h2 hg2; have H2 := hid h2; have G2 := hid hg2; clear h2 hg2)
    | (refine wpList_insert_first rfl 38 (.tmp 9) _ (.tmp 10) rfl w.heap.size ⟨#[112]⟩ vF rfl rfl rfl 9 22 Tryf.underlying38 Tryf.underlying9 (by exact heap_alloc_new _ _) ?_; intro w1 h1 hg1; have H1 := hid h1; have G1 := hid hg1; clear h1 hg1))
  go_ret
  obtain ⟨hE, hB⟩ := new_facts rfl H1.out G1.out H2.out G2.out
  have z1 := G1.out.size
  have z2 := G2.out.size
  simp at z1 z2
  exact ⟨_, _, _, _, _, rfl, hE, by omega, hB⟩
end Go.Proofs.Qxb6614485aFmt
