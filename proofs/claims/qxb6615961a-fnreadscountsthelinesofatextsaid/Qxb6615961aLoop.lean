/- The walk of FnReadsCountsTheLinesOfAText (4). -/
import Derived.Test.Qxb6615961aLine
namespace Go.Proofs.Qxb6615961a
open Go.RowKit
theorem Try.info5 : (Try.prog.info? 5).map (fun i => (i.zero, i.size, i.bytes)) = some (some (.int .u8 0), 1, 1) := by kernel_rfl
set_option maxHeartbeats 1000000 in
theorem law2_long (a0 : Option Addr) (len cap : Nat) (w : World) (hlen : 65536 < len) (hm : len ≤ maxLen) :
    Calls Try.prog 4 #[.slice a0 len cap] w fun e w' => e = .returned (.bool true) ∧ Below w.heap.size w w' := by
  unfold maxLen at hm
  by_cases h : 1048576 < len
  · go_enter Try.func4, Try.ntmps4
    go_wp2
    go_ret
    exact ⟨rfl, Below.refl _ _⟩
  · go_enter Try.func4, Try.ntmps4
    go_wp2
    go_ret
    exact ⟨rfl, Below.refl _ _⟩
set_option maxHeartbeats 1000000 in
theorem law2_zero (a0 : Option Addr) (cap : Nat) (w : World) :
    Calls Try.prog 4 #[.slice a0 0 cap] w fun e w' => e = .returned (.bool true) ∧ Below w.heap.size w w' := by
  go_enter Try.func4, Try.ntmps4
  go_wp2
  refine wp_loop_rounds 1 ?_
  rw [rounds_succ]
  go_wp2_with (go_at_call 9; refine (line_nil _).mono ?_; rintro e w' ⟨rfl, rfl⟩)
  go_ret
  exact ⟨rfl, Below.refl _ _⟩
theorem new_cells (wr : World) (E : List Int) : ∀ (j : Nat) (u : Value), (E.map (Value.int .u8))[j]? = some u →
    (wr.alloc (Obj.cells (E.map (Value.int .u8)).toArray 5)).cell? ((⟨wr.heap.size, 0, none⟩ : Addr).add j) = some u := by
  intro j u h
  have e : (⟨wr.heap.size, 0, none⟩ : Addr).add j = ⟨wr.heap.size, j, none⟩ := by
    simp only [Addr.add, Nat.zero_add]; split <;> simp_all
  rw [e, World.cell?_alloc_new]
  simpa using h
set_option maxHeartbeats 400000 in
theorem bytes_any (a0 : Option Addr) (len cap : Nat) (w : World) (hlen : len ≤ 65536) :
    Calls Try.prog 8 #[.slice a0 len cap] w fun e w' => e = .returned (.bool true) ∧ w = w' := by
  go_enter Try.func8, Try.ntmps8
  go_wp2
  go_ret
  exact ⟨rfl, rfl⟩
theorem rune_cases (z : Int) : ((z == 133) = true ∧ Hid (brkRune z = true)) ∨ ((z == 133) = false ∧ z < 160 ∧ Hid (brkRune z = false)) ∨
    ((z == 133) = false ∧ 160 ≤ z ∧ (z != 65534) = false ∧ Hid (brkRune z = false)) ∨
    ((z == 133) = false ∧ 160 ≤ z ∧ (z != 65534) = true ∧ (z != 65535) = false ∧ Hid (brkRune z = false)) ∨
    ((z == 133) = false ∧ 160 ≤ z ∧ (z != 65534) = true ∧ (z != 65535) = true ∧ readsB z = false ∧ Hid (brkRune z = true)) ∨
    ((z == 133) = false ∧ 160 ≤ z ∧ (z != 65534) = true ∧ (z != 65535) = true ∧ readsB z = true ∧ Hid (brkRune z = false)) := by
  simp only [Hid, brkRune, readsB]
  by_cases h1 : z = 133
  · subst h1; simp
  by_cases h2 : z < 160
  · right; left; simp; omega
  by_cases h3 : z = 65534
  · subst h3; simp
  by_cases h4 : z = 65535
  · subst h4; simp
  by_cases h5 : z = 8232
  · subst h5; simp
  by_cases h6 : z = 8233
  · subst h6; simp
  · right; right; right; right; right; simp; omega
theorem rel_step {w wr w1 : World} {v v' : Value} {T E : List Int} (hbel : Below w.heap.size w wr)
    (hown : wr.ownsRow w.heap.size 5 1 v T.length (T.map (Value.int .u8)))
    (hown' : w1.ownsRow w.heap.size 5 1 v' (T.length + E.length) (T.map (Value.int .u8) ++ E.map (Value.int .u8)))
    (hg : (wr.alloc (Obj.cells (E.map (Value.int .u8)).toArray 5)).grownBy w1 v.ownBlock) :
    w1.ownsRow w.heap.size 5 1 v' (T ++ E).length ((T ++ E).map (Value.int .u8)) ∧ Below w.heap.size w w1 := by
  refine ⟨by rw [List.length_append, List.map_append]; exact hown', ?_⟩
  have hsz := hbel.size
  exact (hbel.alloc hsz _).grown hg (by simp; omega) (fun k hk => (hown.lt k hk).1)
set_option maxHeartbeats 2000000 in
theorem law2_loop (zs : List Int) (b off len cap : Nat) (w : World) (hlen : len ≤ 65536) (hb : b < w.heap.size)
    (hc : ∀ k, k < len → w.cell? ⟨b, off + k, none⟩ = some (.int .i32 (zs.getD k 0))) (hz : len ≤ zs.length) :
    Calls Try.prog 4 #[.slice (some ⟨b, off, none⟩) len cap] w fun e w' => e = .returned (.bool true) ∧ Below w.heap.size w w' := by
  have HC : Hid (∀ k, k < len → w.cell? ⟨b, off + k, none⟩ = some (.int .i32 (zs.getD k 0))) := hc
  clear hc
  obtain ⟨i0, hi, hz0, hz1, hz2⟩ := info_parts Try.info5
  have d1 : decide ((65536 : Int) < (len : Int)) = false := decide_eq_false (by omega)
  go_enter Try.func4, Try.ntmps4
  go_wp2_with (go_at_call 8; refine (bytes_any _ _ _ _ hlen).mono ?_; rintro e w' ⟨rfl, rfl⟩)
  go_loopw [3, 4, 5] (fun t rf i wr => ∃ k : Nat, k ≤ len ∧ i = .int .i64 k ∧ rf = .int .i64 (ref (zs.take k)) ∧
      wr.ownsRow w.heap.size 5 1 t (txt (zs.take k)).length ((txt (zs.take k)).map (Value.int .u8)) ∧ Below w.heap.size w wr)
    (fun _ _ i _ => len - (intOf i).toNat)
  case atStart => exact ⟨0, Nat.zero_le _, rfl, rfl, World.ownsRow_nil _ _ _ _, Below.refl _ _⟩
  case round =>
    obtain ⟨k, hk, rfl, rfl, hown, hbel⟩ := hrel
    have hr1 := ref_le (zs.take k)
    have hr2 := txt_le (zs.take k)
    have hr3 : (zs.take k).length ≤ k := List.length_take_le _ _
    have hsz := hbel.size
    by_cases hlt : k < len
    · have hcx : wr.cell? ⟨b, off + k, none⟩ = some (.int .i32 (zs.getD k 0)) := (hbel.cell (by exact hb)).trans (HC.out k hlt)
      have HT : Hid (zs.take (k + 1) = zs.take k ++ [zs.getD k 0]) := by
        unfold Hid
        have hkz : k < zs.length := by omega
        rw [List.take_succ_eq_append_getElem hkz]; simp [List.getD, hkz]
      generalize zs.getD k 0 = z at *
      by_cases hin : inR z = true
      · have hl2 := encL_len z
        have hzz : 128 ≤ z ∧ z ≤ 1114111 := by simpa [inR] using hin
        obtain ⟨hzl, hzh⟩ := hzz
        go_wp2_with fail
        refine (enc_any z _ hzl hzh).mono ?_
        rintro e w' ⟨rfl, rfl⟩
        generalize hT : txt (zs.take k) = T at *
        generalize hR : ref (zs.take k) = R at *
        generalize hE : encL z = E at *
        have HE : Hid (encL z = E) := hE
        have HR : Hid (ref (zs.take k) = R) := hR
        have HTT : Hid (txt (zs.take k) = T) := hT
        clear hE hR hT
        go_wp2_with (first
          | (at_builtin; refine wpList_append_own _ rfl _ _ 22 rfl w.heap.size 5 i0 (.int .u8 0) 1 1 Try.underlying22 hi hz0 hz1 hz2 rfl (by decide) _ _ _ rfl (hown.alloc _) ⟨wr.heap.size, 0, none⟩ E.length E.length (E.map (Value.int .u8)) rfl ?c0 ?c1 ?c2 ?c3 ?c4 ?c5 ?_)
          | (go_at_call 7; refine (reads_any _ _).mono ?_; rintro e w' ⟨rfl, rfl⟩))
        case c0 => simp
        case c1 => exact new_cells wr E
        case c2 =>
          intro u hu
          simp at hu
          obtain ⟨a, _, rfl⟩ := hu
          rfl
        case c3 => unfold maxLen; omega
        case c4 => omega
        case c5 => simp; omega
        intro v' w1 hown' hgrow _
        obtain ⟨R1, R2⟩ := rel_step hbel hown hown' hgrow
        clear hown hown' hgrow hcx hbel
        have hle : R ≤ k := by omega
        rcases rune_cases z with ⟨q1, hbr⟩ | ⟨q1, q2, hbr⟩ | ⟨q1, q2, q3, hbr⟩ | ⟨q1, q2, q3, q4, hbr⟩ | ⟨q1, q2, q3, q4, q5, hbr⟩ | ⟨q1, q2, q3, q4, q5, hbr⟩
        all_goals
          go_wp2_with (go_at_call 7; refine (reads_any _ _).mono ?_; rintro e w' ⟨rfl, rfl⟩)
          go_roundw
          case rel => exact ⟨k + 1, by omega, by go_num, by rw [HT.out, ref_snoc _ _ hin, HR.out, hbr.out]; simp, by rw [HT.out, txt_snoc _ _ hin, HTT.out, HE.out]; exact R1, R2⟩
          case measure => simp [intOf]; omega
      · have hno : inR z = false := by simpa using hin
        have hzz : z < 128 ∨ 1114111 < z := by simp [inR] at hno; omega
        generalize hT : txt (zs.take k) = T at *
        generalize hR : ref (zs.take k) = R at *
        have HR : Hid (ref (zs.take k) = R) := hR
        have HTT : Hid (txt (zs.take k) = T) := hT
        clear hR hT
        rcases hzz with h1 | h1
        all_goals
          go_wp2
          go_roundw
          case rel => exact ⟨k + 1, by omega, by go_num, by rw [HT.out, ref_skip _ _ hno, HR.out], by rw [HT.out, txt_skip _ _ hno, HTT.out]; exact hown, hbel⟩
          case measure => simp [intOf]; omega
    · have hkl : k = len := by omega
      subst hkl
      have hlc := lc_txt (zs.take k)
      generalize hT : txt (zs.take k) = T at *
      generalize hR : ref (zs.take k) = R at *
      have hTb : T.length ≤ 262144 := by omega
      clear hT hR hr3
      have hown0 := hown
      obtain ⟨hlen1, hv⟩ := hown
      subst hlc
      rcases hv with ⟨rfl, hn0⟩ | ⟨g, cp, cur, rfl, hg, hcur, hcap, hmx, hcs, htk⟩
      · obtain rfl : T = [] := List.eq_nil_of_length_eq_zero hn0
        clear hown0 hr1 hr2 hTb hlen1 hn0
        rw [show lc 0 [] = 0 from by simp [lc]]
        go_wp2_with (go_at_call 9; refine (line_nil _).mono ?_; rintro e w' ⟨rfl, rfl⟩)
        go_ret
        exact ⟨rfl, hbel⟩
      · have HX : Hid (∀ j, j < T.length → wr.cell? ⟨g, j, none⟩ = some (.int .u8 (T.getD j 0))) := by
          intro j hj
          rw [hown0.cellAt j (by omega)]
          simp [hj]
        have hlcb := lc_le T 0
        clear hown0 hr1 hr2 hlen1 hcur hcap hmx hcs htk
        go_wp2_with (go_at_call 9; refine (line_any T g T.length _ _ rfl (by omega) HX.out).mono ?_; rintro e w' ⟨rfl, rfl⟩)
        go_ret
        exact ⟨ret_bool (by simp), hbel⟩
end Go.Proofs.Qxb6615961a
