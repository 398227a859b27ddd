/- The contracts of zzMag (12) and zzUtoa (11). -/
import Derived.Test.Qxb6614529aFmtStop
import Derived.Test.Qxb6614529aFmtDec
import Derived.Laws.IdiomStrings
namespace Go.Proofs.Qxb6614529aFmt
open Go.RowKit
open Go.Lib (decDigits itoa)
theorem ret_int {k : IntKind} {a b : Int} (h : a = b) : Ending.returned (.int k a) = .returned (.int k b) := by rw [h]
theorem ret_bool {a b : Bool} (h : a = b) : Ending.returned (.bool a) = .returned (.bool b) := by rw [h]
theorem ret_str {a b : ByteArray} (h : a = b) : Ending.returned (.string a) = .returned (.string b) := by rw [h]
set_option maxHeartbeats 400000 in
theorem mag_any (n : Int) (w : World) (h0 : -9223372036854775808 ≤ n) (h1 : n ≤ 9223372036854775807) :
    Calls Tryf.prog 12 #[.int .i64 n] w fun e w' => e = .returned (.int .u64 (n.natAbs : Int)) ∧ w = w' := by
  by_cases h : n < 0
  · go_enter Tryf.func12, Tryf.ntmps12
    go_wp2
    go_ret
    refine ⟨ret_int ?_, rfl⟩
    omega
  · go_enter Tryf.func12, Tryf.ntmps12
    go_wp2
    go_ret
    refine ⟨ret_int ?_, rfl⟩
    omega
theorem Tryf.len34 : Tryf.prog.arrayLen 34 = 20 := by kernel_rfl
theorem Tryf.elem34 : Tryf.prog.elem 34 = 5 := by kernel_rfl
theorem Tryf.under34 : Tryf.prog.underlying 34 = some (.array (Tryf.prog.arrayLen 34) (Tryf.prog.elem 34)) := by kernel_rfl
theorem slice_buf (B k : Nat) (hk : k < 20) (w : World) :
    (Instr.sliceAt 34 (.pointer (some ⟨B, 0, none⟩)) (some (.int .i64 (k : Int))) none none).run Tryf.prog w = .ok (.slice (some ⟨B, k, none⟩) (20 - k) (20 - k)) w := by
  have hs : (sizeOf 5).run Tryf.prog w = .ok 1 w := by kernel_rfl
  have h := run_sliceAt_array_l (P := Tryf.prog) w 34 ⟨B, 0, none⟩ Tryf.under34 .i64 (k : Int) (by omega) (by rw [Tryf.len34]; omega)
  rw [Tryf.elem34, Tryf.len34] at h
  rw [h, hs]
  show Result.ok (slicedAt ⟨B, 0, none⟩ (k : Int).toNat 20 20 1) w = _
  unfold slicedAt
  rw [if_neg (by simp; omega), Go.Lib.add_plain]
  simp
set_option maxHeartbeats 400000 in
theorem utoa_zero (w : World) :
    Calls Tryf.prog 11 #[.int .u64 0] w fun e w' => e = .returned (.string ⟨#[48]⟩) ∧ Below w.heap.size w w' := by
  go_enter Tryf.func11, Tryf.ntmps11
  go_wp2
  go_ret
  exact ⟨rfl, Below.refl _ _⟩
set_option maxHeartbeats 400000 in
theorem utoa_pos (u : Nat) (hu : 0 < u) (hm : u < 18446744073709551616) (w : World) :
    Calls Tryf.prog 11 #[.int .u64 (u : Int)] w fun e w' => e = .returned (.string ⟨(decDigits u).toArray⟩) ∧ Below w.heap.size w w' := by
  have hne : ((u : Int) == 0) = false := by simp; omega
  go_enter Tryf.func11, Tryf.ntmps11
  go_wp2
  go_loopw [0, 4] (fun uv iv wr => ∃ (v k : Nat) (L : List UInt8) (xs : List Value), uv = .int .u64 v ∧ iv = .int .i64 k ∧ k ≤ 20 ∧ v < 18446744073709551616 ∧
      Hid (ddz u = ddz v ++ L) ∧ Hid (L.length + k = 20) ∧ wr.ownsRow w.heap.size 34 1 (.slice (some ⟨w.heap.size, 0, none⟩) 20 20) 20 xs ∧
      Hid (∀ j (hj : j < L.length), xs[k + j]? = some (.int .u8 (L[j].toNat : Int))) ∧ Below w.heap.size w wr)
    (fun uv _ _ => (intOf uv).toNat)
  case atStart =>
    exact ⟨u, 20, [], _, rfl, rfl, Nat.le_refl _, hm, by simp [Hid], by simp [Hid], World.ownsRow_lit (e := 34) (size := 1) w _ 20 (Nat.le_refl _) (by unfold maxLen; omega) rfl, fun j hj => by simp at hj, (Below.refl _ _).alloc (Nat.le_refl _) _⟩
  case round =>
    obtain ⟨v, k, L, xs, rfl, rfl, hk, hv, HD, HL, ho, HX, hbel⟩ := hrel
    by_cases hlt : 0 < v
    · have hk1 : 1 ≤ k := by
        have h1 := ddz_len u hm
        have h2 := congrArg List.length HD.out
        have h3 := ddz_pos hlt
        have h4 := HL.out
        simp at h2; omega
      obtain ⟨k, rfl⟩ : ∃ q, k = q + 1 := ⟨k - 1, by omega⟩
      have hxl : xs.length = 20 := by have := ho.1; omega
      have hcd' : ∃ x, wr.cell? ⟨w.heap.size, k, none⟩ = some x := ⟨xs[k]'(by omega), by rw [ho.cellAt k (by omega)]; simp⟩
      obtain ⟨x, hx⟩ := hcd'
      have hfr := ho.frozenAt k
      have HO : Hid (wr.ownsRow w.heap.size 34 1 (.slice (some ⟨w.heap.size, 0, none⟩) 20 20) 20 xs) := ho
      have HXL : Hid (xs.length = 20) := hxl
      clear ho hxl
      go_wp2
      go_roundw
      case rel =>
        refine ⟨v / 10, k, UInt8.ofNat (48 + v % 10) :: L, xs.set k (.int .u8 (48 + (v : Int) % 10)), by go_num, rfl, by omega, by omega, ?_, ?_, (HO.out.stored k _).1, ?_, hbel.setCell (Nat.le_refl _) _⟩
        · have h1 := HD.out
          have h2 := ddz_step hlt
          unfold Hid; rw [h1, h2]; simp
        · have := HL.out
          unfold Hid; simp; omega
        · intro j hj
          rw [List.getElem?_set]
          cases j with
          | zero =>
            have h20 := HXL.out
            rw [if_pos (by omega), if_pos (by omega)]
            simp only [List.getElem_cons_zero]
            rw [toNat_digit _ (by omega)]; simp
          | succ j =>
            rw [if_neg (by omega)]
            have := HX.out j (by simpa using hj)
            rw [show k + 1 + j = k + (j + 1) by omega] at this
            simpa using this
      case measure => simp [intOf]; omega
    · have hv0 : v = 0 := by omega
      subst hv0
      have hL : decDigits u = L := by
        have h1 := HD.out
        simp [ddz, show ¬ u = 0 by omega] at h1
        exact h1
      have hk20 : L.length = 20 - k ∧ k < 20 := by
        have h1 := HL.out
        have h2 : 0 < L.length := by rw [← hL]; exact List.length_pos_iff.2 (dd_ne_nil _)
        omega
      have hconv : ∀ cap, (convert 35 9 (.slice (some ⟨w.heap.size, k, none⟩) (20 - k) cap)).run Tryf.prog wr = .ok (.string ⟨(decDigits u).toArray⟩) wr := by
        intro cap
        rw [← hk20.1, hL]
        refine run_convert_bytes_back wr 35 9 5 ⟨w.heap.size, k, none⟩ cap L Tryf.underlying35 Tryf.underlying5 Tryf.underlying9 (fun j hj => ?_)
        rw [Go.Lib.add_plain]
        rw [ho.cellAt (k + j) (by omega)]
        exact HX.out j hj
      obtain ⟨_, hk19⟩ := hk20
      clear hL HL HX HD ho
      have hsl := slice_buf w.heap.size k hk19 wr
      go_wp2
      go_ret
      exact ⟨rfl, hbel⟩
end Go.Proofs.Qxb6614529aFmt
