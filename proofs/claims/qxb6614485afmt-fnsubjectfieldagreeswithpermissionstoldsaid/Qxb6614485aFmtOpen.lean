/- A []string and a [][]string that came in, opened. -/
import Derived.Test.Qxb6614485aFmtRowsC
import Derived.Deep.Strs
namespace Go.Proofs.Qxb6614485aFmt
open Go.RowKit Go.ChangeShapes Go.WideShapes Go.Deep
theorem Tryf.cells9 : Tryf.prog.cellsOf 9 = 1 := by kernel_rfl
theorem Tryf.cells22 : Tryf.prog.cellsOf 22 = 1 := by kernel_rfl
variable {H : Type} {enc : TypeId × Value → H} {w : World} {base : Nat} {spare : Nat → Bool} {held : Bool}
theorem open_row {fuel : Nat} {v : Value} {x : DataW H × List MemPlace} (h : DataW.trod enc Tryf.prog w base spare held fuel 22 [v] = some x) : ∃ ss, RowAt w v ss := by
  rcases open_strs Tryf.underlying22 Tryf.underlying9 Tryf.cells9 h with ⟨hcs, _⟩ | ⟨a, len, cap, m, Sx, hcs, _, hl, hm, hmm, _, hc⟩
  · simp only [List.cons.injEq, and_true] at hcs
    exact ⟨[], none, 0, hcs, .inl rfl⟩
  · simp only [List.cons.injEq, and_true] at hcs
    have hlm : len ≤ m := by rw [hmm]; split <;> omega
    have hlen : ((List.range len).map Sx).length = len := by simp
    refine ⟨(List.range len).map Sx, some a, cap, by rw [hlen]; exact hcs, ?_⟩
    rw [hlen]
    by_cases h0 : len = 0
    · exact .inl h0
    · obtain ⟨b, off, spot⟩ := a
      have hspot : spot = none := by simpa [Addr.add] using World.cell?_spot (hc 0 (by omega)).1
      subst hspot
      have hcell : ∀ i, i < len → w.cell? ⟨b, off + i, none⟩ = some (.string (Sx i)) := fun i hi => by
        have := (hc i (by omega)).1
        rwa [Addr.add_lit] at this
      refine .inr ⟨b, off, rfl, World.block_lt_of_cell? w _ (hcell 0 (by omega)), fun i hi => ?_⟩
      rw [hcell i hi]
      simp [el, List.getD, hi]
theorem open_rows {fuel : Nat} {v : Value} {x : DataW H × List MemPlace} (h : DataW.trod enc Tryf.prog w base spare held fuel 23 [v] = some x) : ∃ rs, RowsAt w v rs := by
  rcases open_slice1 Tryf.underlying23 Tryf.cells22 h with ⟨hcs, _⟩ | ⟨a, len, cap, m, n, V, D, Pl, hcs, _, hl, hm, hmm, _, hc⟩
  · simp only [List.cons.injEq, and_true] at hcs
    exact ⟨[], none, 0, hcs, .inl rfl⟩
  · simp only [List.cons.injEq, and_true] at hcs
    have hlm : len ≤ m := by rw [hmm]; split <;> omega
    obtain ⟨R, hR⟩ := choose_lt (α := List ByteArray) (n := m) (p := fun i r => RowAt w (V i) r) (fun i hi => open_row (hc i hi).2)
    have hlen : ((List.range len).map R).length = len := by simp
    refine ⟨(List.range len).map R, some a, cap, by rw [hlen]; exact hcs, ?_⟩
    rw [hlen]
    by_cases h0 : len = 0
    · exact .inl h0
    · obtain ⟨b, off, spot⟩ := a
      have hspot : spot = none := by simpa [Addr.add] using World.cell?_spot (hc 0 (by omega)).1
      subst hspot
      have hcell : ∀ i, i < len → w.cell? ⟨b, off + i, none⟩ = some (V i) := fun i hi => by
        have := (hc i (by omega)).1
        rwa [Addr.add_lit] at this
      refine .inr ⟨b, off, V, rfl, World.block_lt_of_cell? w _ (hcell 0 (by omega)), fun i hi => ⟨hcell i hi, ?_⟩⟩
      have e : rowAt ((List.range len).map R) i = R i := by simp [rowAt, List.getD, hi]
      rw [e]
      exact hR i (by omega)
end Go.Proofs.Qxb6614485aFmt
