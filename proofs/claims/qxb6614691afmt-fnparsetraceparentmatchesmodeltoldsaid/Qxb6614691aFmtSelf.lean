/- A value equals itself: the arrays 24 and 26 and the struct 31. -/
import Derived.Test.Qxb6614691aFmtModE
import Derived.ChangeKeysEq
namespace Go.Proofs.Qxb6614691aFmt
open Go.RowKit
theorem items_self {P : Program} (w : World) (d e c : Nat) (xs : Array Value) : ∀ is : List Nat, (∀ i, i ∈ is → ∃ v, (part e xs (i * c)).run P w = .ok v w ∧ (Op.equalIn d e v v).run P w = .ok true w) →
    (Op.eqItems d e c xs xs is).run P w = .ok true w
  | [], _ => by simp [Op.eqItems]
  | i :: is, h => by
    obtain ⟨v, h1, h2⟩ := h i (by simp)
    have ih := items_self w d e c xs is (fun j hj => h j (by simp [hj]))
    simp only [Op.eqItems, Sem.run_bind, h1, h2, Result.andThen_ok, Bool.not_true, Bool.false_eq_true, if_false]
    exact ih
theorem fields_self {P : Program} (w : World) (d : Nat) (xs : Array Value) : ∀ fs : List Field, (∀ f, f ∈ fs → ∃ v, (part f.type xs f.offset).run P w = .ok v w ∧ (Op.equalIn d f.type v v).run P w = .ok true w) →
    (Op.eqFields d xs xs fs).run P w = .ok true w
  | [], _ => by simp [Op.eqFields]
  | f :: fs, h => by
    obtain ⟨v, h1, h2⟩ := h f (by simp)
    have ih := fields_self w d xs fs (fun j hj => h j (by simp [hj]))
    unfold Op.eqFields
    split
    · simp only [Sem.run_bind, h1, h2, Result.andThen_ok, Bool.not_true, Bool.false_eq_true, if_false]
      exact ih
    · exact ih
theorem array_self {P : Program} (w : World) (d : Nat) {t e n : Nat} {k : IntKind} (xs : Array Value) (hu : P.underlying t = some (.array n e)) (he : P.underlying e = some (.int k)) (hc : P.cellsOf e = 1)
    (hx : ∀ j, j < n → ∃ m, xs[j]? = some (.int k m)) : (Op.equalIn (d + 2) t (.agg xs) (.agg xs)).run P w = .ok true w := by
  obtain ⟨i, hi⟩ := info_of_underlying he
  rw [show d + 2 = (d + 1) + 1 from rfl, run_equalIn_array w (d + 1) xs xs hu hi, hc]
  apply items_self
  intro j hj
  obtain ⟨m, hm⟩ := hx j (List.mem_range.1 hj)
  refine ⟨.int k m, run_part_plain w (by simp [Program.plainKey, he]) (by rw [Nat.mul_one]; exact hm), ?_⟩
  rw [run_equalIn_int w d e k k m m he]
  simp
theorem Tryf.cells5 : Tryf.prog.cellsOf 5 = 1 := by kernel_rfl
theorem Tryf.cells24 : Tryf.prog.cellsOf 24 = 16 := by kernel_rfl
theorem Tryf.cells26 : Tryf.prog.cellsOf 26 = 8 := by kernel_rfl
theorem Tryf.cells29 : Tryf.prog.cellsOf 29 = 1 := by kernel_rfl
theorem part_array {P : Program} (w : World) {t e n : Nat} (xs : Array Value) (off c : Nat) (hu : P.underlying t = some (.array n e)) (hc : P.cellsOf t = c) : (part t xs off).run P w = .ok (.agg (xs.extract off (off + c))) w := by
  obtain ⟨i, hi⟩ := info_of_underlying hu
  subst hc
  simp [part, isAgg, run_underlying hu, run_sizeOf w hi]
theorem part_struct {P : Program} (w : World) {t : Nat} {fs : Array Field} (xs : Array Value) (off c : Nat) (hu : P.underlying t = some (.struct fs)) (hc : P.cellsOf t = c) : (part t xs off).run P w = .ok (.agg (xs.extract off (off + c))) w := by
  obtain ⟨i, hi⟩ := info_of_underlying hu
  subst hc
  simp [part, isAgg, run_underlying hu, run_sizeOf w hi]
/-- the shape of a SpanContext's cells -/
structure Shape (xs : Array Value) : Prop where
  ints : ∀ j, j < 25 → ∃ m, xs[j]? = some (.int .u8 m)
  str : ∃ t, xs[25]? = some (.string t)
  rem : ∃ b, xs[26]? = some (.bool b)
theorem eq24 (w : World) (d : Nat) (xs : Array Value) (hx : ∀ j, j < 16 → ∃ m, xs[j]? = some (.int .u8 m)) : (Op.equalIn (d + 2) 24 (.agg xs) (.agg xs)).run Tryf.prog w = .ok true w :=
  array_self w d xs Tryf.underlying24 Tryf.underlying5 Tryf.cells5 hx
theorem eq26 (w : World) (d : Nat) (xs : Array Value) (hx : ∀ j, j < 8 → ∃ m, xs[j]? = some (.int .u8 m)) : (Op.equalIn (d + 2) 26 (.agg xs) (.agg xs)).run Tryf.prog w = .ok true w :=
  array_self w d xs Tryf.underlying26 Tryf.underlying5 Tryf.cells5 hx
theorem eq29 (w : World) (d : Nat) (xs : Array Value) (hx : ∃ t, xs[0]? = some (.string t)) : (Op.equalIn (d + 2) 29 (.agg xs) (.agg xs)).run Tryf.prog w = .ok true w := by
  have hf : Tryf.prog.fieldsOf 29 = #[{ name := "list", type := 9, offset := 0, embedded := false, tag := "", pkgPath := "example.com/nimble-trace/nimble-trace", byteOffset := 0 }] := by simp [Program.fieldsOf, Tryf.underlying29]
  rw [show d + 2 = (d + 1) + 1 from rfl, run_equalIn_struct w (d + 1) 29 xs xs (by rw [hf]; exact Tryf.underlying29) (by kernel_rfl), hf]
  apply fields_self
  intro f hf
  simp only [List.mem_singleton] at hf
  subst hf
  obtain ⟨t, ht⟩ := hx
  refine ⟨.string t, run_part_plain w (by simp [Program.plainKey, Tryf.underlying9]) ht, ?_⟩
  rw [run_equalIn_string w d 9 t t Tryf.underlying9]
  simp
theorem eq31 (w : World) (d : Nat) (xs : Array Value) (h : Shape xs) : (Op.equalIn (d + 3) 31 (.agg xs) (.agg xs)).run Tryf.prog w = .ok true w := by
  obtain ⟨fs, hf, hu⟩ : ∃ fs, Tryf.prog.fieldsOf 31 = fs ∧ Tryf.prog.underlying 31 = some (.struct fs) := ⟨_, rfl, by simp [Program.fieldsOf, Tryf.underlying31]⟩
  have hsz : 27 ≤ xs.size := by obtain ⟨b, hb⟩ := h.rem; have := (Array.getElem?_eq_some_iff.1 hb).1; omega
  rw [show d + 3 = (d + 2) + 1 from rfl, run_equalIn_struct w (d + 2) 31 xs xs (by rw [hf]; exact hu) (by kernel_rfl), hf]
  apply fields_self
  rw [Tryf.underlying31] at hu
  injection hu with hu
  injection hu with hu
  subst hu
  intro f hf
  simp only [List.mem_cons, List.not_mem_nil, or_false] at hf
  rcases hf with rfl | rfl | rfl | rfl | rfl
  · refine ⟨_, part_array w xs 0 16 Tryf.underlying24 Tryf.cells24, eq24 w d _ fun j hj => ?_⟩
    obtain ⟨m, hm⟩ := h.ints j (by omega)
    exact ⟨m, by rw [Array.getElem?_extract, if_pos (by omega), Nat.zero_add]; exact hm⟩
  · refine ⟨_, part_array w xs 16 8 Tryf.underlying26 Tryf.cells26, eq26 w d _ fun j hj => ?_⟩
    obtain ⟨m, hm⟩ := h.ints (16 + j) (by omega)
    exact ⟨m, by rw [Array.getElem?_extract, if_pos (by omega)]; exact hm⟩
  · obtain ⟨m, hm⟩ := h.ints 24 (by omega)
    refine ⟨.int .u8 m, run_part_plain w (by simp [Program.plainKey, Tryf.underlying27]) hm, ?_⟩
    rw [run_equalIn_int w (d + 1) 27 .u8 .u8 m m Tryf.underlying27]
    simp
  · refine ⟨_, part_struct w xs 25 1 Tryf.underlying29 Tryf.cells29, eq29 w d _ ?_⟩
    obtain ⟨t, ht⟩ := h.str
    exact ⟨t, by rw [Array.getElem?_extract, if_pos (by omega), Nat.add_zero]; exact ht⟩
  · obtain ⟨b, hb⟩ := h.rem
    refine ⟨.bool b, run_part_plain w (by simp [Program.plainKey, Tryf.underlying4]) hb, ?_⟩
    rw [run_equalIn_bool' w (d + 1) 4 b b Tryf.underlying4]
    simp
theorem neq24 (w : World) (xs : Array Value) (hx : ∀ j, j < 16 → ∃ m, xs[j]? = some (.int .u8 m)) : (binOp .neq 24 (.agg xs) (.agg xs)).run Tryf.prog w = .ok (.bool false) w := by
  rw [run_neq_struct, eq24 w 9998 xs hx]; rfl
theorem neq26 (w : World) (xs : Array Value) (hx : ∀ j, j < 8 → ∃ m, xs[j]? = some (.int .u8 m)) : (binOp .neq 26 (.agg xs) (.agg xs)).run Tryf.prog w = .ok (.bool false) w := by
  rw [run_neq_struct, eq26 w 9998 xs hx]; rfl
theorem neq31 (w : World) (xs : Array Value) (h : Shape xs) : (binOp .neq 31 (.agg xs) (.agg xs)).run Tryf.prog w = .ok (.bool false) w := by
  rw [run_neq_struct, eq31 w 9997 xs h]; rfl
theorem eql31 (w : World) (xs : Array Value) (h : Shape xs) : (binOp .eql 31 (.agg xs) (.agg xs)).run Tryf.prog w = .ok (.bool true) w := by
  rw [run_eql_struct, eq31 w 9997 xs h]; rfl
theorem trL_ints (s : ByteArray) (j : Nat) (hj : j < 16) : ∃ m, (trL s).toArray[j]? = some (.int .u8 m) := ⟨pair s (3 + 2 * j), by simp [trL, hj]⟩
theorem spL_ints (s : ByteArray) (j : Nat) (hj : j < 8) : ∃ m, (spL s).toArray[j]? = some (.int .u8 m) := ⟨pair s (36 + 2 * j), by simp [spL, hj]⟩
theorem ctx_shape (s : ByteArray) : Shape (ctxOf s) := by
  have ht : (trL s).length = 16 := by simp [trL]
  have hs : (spL s).length = 8 := by simp [spL]
  refine ⟨fun j hj => ?_, ⟨⟨#[]⟩, ?_⟩, ⟨false, ?_⟩⟩
  · unfold ctxOf
    by_cases h1 : j < 16
    · obtain ⟨m, hm⟩ := trL_ints s j h1
      exact ⟨m, by rw [← hm]; simp [List.getElem?_append, ht, h1]⟩
    · by_cases h2 : j < 24
      · obtain ⟨m, hm⟩ := spL_ints s (j - 16) (by omega)
        exact ⟨m, by rw [← hm]; simp [List.getElem?_append, ht, hs, h1]; intro; omega⟩
      · obtain rfl : j = 24 := by omega
        exact ⟨_, by simp [ht, hs, flV]; rfl⟩
  · simp [ctxOf, ht, hs]
  · simp [ctxOf, ht, hs]
theorem zero_shape : Shape zeroCtx := by
  refine ⟨fun j hj => ⟨0, ?_⟩, ⟨⟨#[]⟩, rfl⟩, ⟨false, rfl⟩⟩
  have : ∀ j : Fin 25, zeroCtx[j.val]? = some (.int .u8 0) := by
    intro j
    match j with
    | ⟨j, hj⟩ => revert j; intro j hj; show zeroCtx[j]? = _; rcases j with _|_|_|_|_|_|_|_|_|_|_|_|_|_|_|_|_|_|_|_|_|_|_|_|_|j <;> first | rfl | omega
  exact this ⟨j, hj⟩
end Go.Proofs.Qxb6614691aFmt
