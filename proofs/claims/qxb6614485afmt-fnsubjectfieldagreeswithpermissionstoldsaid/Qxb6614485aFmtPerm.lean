/- permsMatch (11). -/
import Derived.Test.Qxb6614485aFmtSub
namespace Go.Proofs.Qxb6614485aFmt
open Go.RowKit
theorem Tryf.info4 : (Tryf.prog.info? 4).map (fun i => (i.zero, i.size, i.bytes)) = some (some (.bool false), 1, 1) := by kernel_rfl
/-- what the second loop knows -/
structure SetI (w wx : World) (g q : Nat) (hitp : Nat → Nat → Prop) (j : Nat) (H : List Bool) : Prop where
  own : wx.ownsRow w.heap.size 4 1 (.slice (some ⟨g, 0, none⟩) q q) q (H.map Value.bool)
  len : H.length = q
  hit : ∀ p, p < q → (∃ i, i < j ∧ hitp i p) → H[p]? = some true
  below : Below w.heap.size w wx
theorem SetI.skip {w wx : World} {g q : Nat} {hp : Nat → Nat → Prop} {j : Nat} {H : List Bool} (I : SetI w wx g q hp j H) (hn : ∀ p, ¬ hp j p) : SetI w wx g q hp (j + 1) H :=
  ⟨I.own, I.len, fun p hpq ⟨i, hi, h⟩ => I.hit p hpq ⟨i, by
    by_cases hij : i = j
    · subst hij; exact absurd h (hn p)
    · omega, h⟩, I.below⟩
theorem SetI.mark {w wx : World} {g q : Nat} {hp : Nat → Nat → Prop} {j h : Nat} {H : List Bool} (I : SetI w wx g q hp j H) (hh : h < q) (hu : ∀ p, hp j p → p = h) : SetI w (wx.setCell ⟨g, h, none⟩ (.bool true)) g q hp (j + 1) (H.set h true) := by
  have hl := I.len
  have hb := I.own.lt g rfl
  refine ⟨?_, by simpa using hl, ?_, I.below.setCell hb.1 _⟩
  · have := (I.own.stored h (.bool true)).1
    simpa [List.map_set] using this
  · rintro p hp0 ⟨i, hi, hip⟩
    by_cases hph : p = h
    · subst hph
      simp [hl, hh]
    · rw [List.getElem?_set_ne (by omega)]
      refine I.hit p hp0 ⟨i, ?_, hip⟩
      by_cases hij : i = j
      · subst hij
        exact absurd (hu p hip) hph
      · omega
theorem SetI.keep {w wx wy : World} {g q : Nat} {hp : Nat → Nat → Prop} {j : Nat} {H : List Bool} (I : SetI w wx g q hp j H) (hb : Below wx.heap.size wx wy) : SetI w wy g q hp j H := by
  have hz := I.below.size
  exact ⟨I.own.kept (row := none) ⟨hb.os, hb.tape, hb.output, hb.size, fun k hk _ => hb.block k hk⟩ (.inr (by simp [Value.ownBlock])), I.len, I.hit, I.below.trans (hb.mono hz)⟩
theorem SetI.cell {w wx : World} {g q : Nat} {hp : Nat → Nat → Prop} {j h : Nat} {H : List Bool} (I : SetI w wx g q hp j H) (hh : h < q) : wx.cell? ⟨g, h, none⟩ = some (.bool (H.getD h false)) := by
  rw [I.own.cellAt h (by omega)]
  have := I.len
  simp [List.getD, this, hh]
theorem set_start {w1 : World} {b g q : Nat} (h : w1.ownsRow b 4 1 (.slice (some ⟨g, 0, none⟩) q q) q (madeCells (Value.bool false).cells (q * 1)).toList) : w1.ownsRow b 4 1 (.slice (some ⟨g, 0, none⟩) q q) q ((List.replicate q false).map Value.bool) := by
  have e : (madeCells (Value.bool false).cells (q * 1)).toList = (List.replicate q false).map Value.bool := by
    rw [Nat.mul_one]
    simpa [Value.cells] using toList_madeCells_one (.bool false) q
  rwa [e] at h
theorem RowAt.keep' {w w' : World} {v : Value} {ss : List ByteArray} (h : RowAt w v ss) (hb : Below w.heap.size w w') : RowAt w' v ss := h.keep hb
/-- the rows of a slice, one by one -/
theorem RowsAt.row {w : World} {a : Option Addr} {n c : Nat} {rs : List (List ByteArray)} (h : RowsAt w (.slice a n c) rs) (i : Nat) (hi : i < rs.length) :
    ∃ g o, ∃ vf : Nat → Value, a = some ⟨g, o, none⟩ ∧ g < w.heap.size ∧ n = rs.length ∧ ∀ i, i < rs.length → w.cell? ⟨g, o + i, none⟩ = some (vf i) ∧ RowAt w (vf i) (rowAt rs i) := by
  obtain ⟨a', c', hv, h⟩ := h
  simp only [Value.slice.injEq] at hv
  obtain ⟨rfl, rfl, rfl⟩ := hv
  rcases h with h | ⟨g, o, vf, h1, h2, h3⟩
  · omega
  · exact ⟨g, o, vf, h1, h2, rfl, h3⟩
theorem wrapi (x : Int) (h0 : -9223372036854775808 ≤ x) (h1 : x ≤ 9223372036854775807) : IntKind.i64.wrap x = x := by
  simp only [IntKind.wrap, IntKind.bits, IntKind.signed]
  simp
  omega
theorem below_drew {w wr : World} (hb : Below w.heap.size w wr) : Below w.heap.size w wr.drew := hb.drew
theorem up_drew {w wr w2 : World} (hb : Below w.heap.size w wr) (h2 : Below wr.drew.heap.size wr.drew w2) : Below w.heap.size w w2 := by
  have s1 := hb.size
  have h2' : Below wr.heap.size wr w2 := ⟨h2.os, h2.tape, h2.output, h2.size, h2.block⟩
  exact hb.trans (h2'.mono s1)
theorem two_cells {w wr w2 : World} {g a b : Nat} {x y : Value} (h2 : Below w.heap.size w w2) (hb : Below w.heap.size w wr) (hg : g < w.heap.size) (h1 : wr.cell? ⟨g, a, none⟩ = some x) (h3 : wr.cell? ⟨g, b, none⟩ = some y) : w2.cell? ⟨g, a, none⟩ = some x ∧ w2.cell? ⟨g, b, none⟩ = some y := by
  rw [h2.cell (p := ⟨g, a, none⟩) hg, h2.cell (p := ⟨g, b, none⟩) hg, ← hb.cell (p := ⟨g, a, none⟩) hg, ← hb.cell (p := ⟨g, b, none⟩) hg]
  exact ⟨h1, h3⟩
/-- compareRows' call in a later world -/
theorem cmp_call {w0 w : World} {v1 v2 : Value} {x y : List ByteArray} (h1 : RowAt w0 v1 x) (h2 : RowAt w0 v2 y) (hb : Below w0.heap.size w0 w) (hl : x.length ≤ 2000000) :
    Calls Tryf.prog 17 #[v1, v2] w fun e w' => e = .returned (.int .i64 (rc x y)) ∧ Below w.heap.size w w' :=
  cmpRow2 v1 v2 x y w (h1.keep hb) (h2.keep hb) hl
set_option maxHeartbeats 4000000 in
set_option maxRecDepth 100000 in
theorem pm_some (w : World) (gp cp gr or_ cr : Nat) (ps rs : List (List ByteArray)) (pv rv : Nat → Value) (sub width : Nat) (name : ByteArray) (hp : gp < w.heap.size) (hr : gr < w.heap.size)
    (hpc : ∀ i, i < ps.length → w.cell? ⟨gp, i, none⟩ = some (pv i) ∧ RowAt w (pv i) (rowAt ps i)) (hrc : ∀ i, i < rs.length → w.cell? ⟨gr, or_ + i, none⟩ = some (rv i) ∧ RowAt w (rv i) (rowAt rs i))
    (hm : ps.length ≤ 100000) (hk : rs.length ≤ 100000) (hw : width ≤ 2000000) (hsw : sub < width)
    (hpw : ∀ i, i < ps.length → (rowAt ps i).length = width ∧ ((el (rowAt ps i) sub).toList == name.toList) = true) (hrw : ∀ i, i < rs.length → (rowAt rs i).length = width)
    (hlt : ∀ i j, i < j → j < ps.length → rc (rowAt ps i) (rowAt ps j) < 0) (hgt : ∀ i j, i < j → j < ps.length → 0 < rc (rowAt ps j) (rowAt ps i)) (hself : ∀ x, rc x x = 0)
    (hin : ∀ j, j < rs.length → ((el (rowAt rs j) sub).toList == name.toList) = true → ∃ p, p < ps.length ∧ rowAt ps p = rowAt rs j) (hon : ∀ p, p < ps.length → ∃ j, j < rs.length ∧ ((el (rowAt rs j) sub).toList == name.toList) = true ∧ rowAt rs j = rowAt ps p) :
    Calls Tryf.prog 11 #[.slice (some ⟨gp, 0, none⟩) ps.length cp, .slice (some ⟨gr, or_, none⟩) rs.length cr, .int .i64 sub, .int .i64 width, .string name] w fun e w' => e = .returned (.bool true) ∧ Below w.heap.size w w' := by
  have HPC := hid hpc
  have HRC := hid hrc
  have HPW := hid hpw
  have HRW := hid hrw
  have HLT := hid hlt
  have HGT := hid hgt
  have HS := hid hself
  have HIN := hid hin
  have HON := hid hon
  clear hpc hrc hpw hrw hlt hgt hself hin hon
  obtain ⟨i4, hi4, hz40, hz41, hz42⟩ := info_parts Tryf.info4
  go_enter Tryf.func11, Tryf.ntmps11
  go_wp2_with fail
  go_loopw [11] (fun i wr => ∃ q : Nat, q ≤ ps.length ∧ i = .int .i64 q ∧ Below w.heap.size w wr) (fun i _ => ps.length - (intOf i).toNat)
  case atStart => exact ⟨0, Nat.zero_le _, rfl, Below.refl _ _⟩
  case round =>
    obtain ⟨q, hq, rfl, hb⟩ := hrel
    by_cases hqm : q < ps.length
    · have HR := hid ((HPC.out q hqm).2.keep' hb)
      have cq := (hb.cell (p := ⟨gp, q, none⟩) hp).trans (HPC.out q hqm).1
      obtain ⟨aq, kq, evq, hxq⟩ := HR.out
      obtain ⟨lw, he⟩ := HPW.out q hqm
      rw [lw] at evq
      rw [evq] at cq
      rcases hxq with h | ⟨g1, o1, rfl, hg1, hc1⟩
      · omega
      have ce := hc1 sub (by omega)
      generalize el (rowAt ps q) sub = x at ce he
      clear hc1
      cases q with
      | zero =>
        go_wp2_with fail
        go_region
        go_wp2_with fail
        go_roundw
        case rel => exact ⟨0 + 1, by omega, by go_num, hb.drew⟩
        case measure => simp [intOf]; omega
      | succ q' =>
        have cp' := (hb.cell (p := ⟨gp, q', none⟩) hp).trans (HPC.out q' (by omega)).1
        have HCC := hid (cmp_call (w := wr.drew) (HPC.out q' (by omega)).2 (HPC.out (q' + 1) hqm).2 (below_drew hb) (by rw [(HPW.out q' (by omega)).1]; exact hw))
        rw [evq] at HCC
        have HL := HLT.out q' (q' + 1) (by omega) hqm
        generalize rc (rowAt ps q') (rowAt ps (q' + 1)) = r at HCC HL
        have j1 : IntKind.i64.wrap ((q' : Int) + 1 - 1) = (q' : Int) := by rw [Int.add_sub_cancel]; exact wrapi _ (by omega) (by omega)
        have j3 : IntKind.i64.wrap (q' : Int) = (q' : Int) := wrapi _ (by omega) (by omega)
        have j2 : (0 : Int) ≤ (q' : Int) + 1 := by omega
        have i1 : (0 : Int) ≤ (q' : Int) := by omega
        have i2 : (q' : Int) < (ps.length : Int) := by omega
        have i3 : (q' : Int) + 1 < (ps.length : Int) := by omega
        go_wp2_with fail
        go_region_held3 (fun w' => w'.cell? ⟨gp, q', none⟩ = some (pv q') ∧ w'.cell? ⟨gp, q' + 1, none⟩ = some (.slice (some ⟨g1, o1, none⟩) width kq))
          (first
            | with_reducible exact K2
            | go_keep)
          (first
            | (go_at_call 17; refine HCC.out.mono ?_; rintro e w2 ⟨rfl, hb2⟩; have HB2 := hid (up_drew hb hb2); have K2 : w2.cell? ⟨gp, q', none⟩ = some (pv q') ∧ w2.cell? ⟨gp, q' + 1, none⟩ = some (.slice (some ⟨g1, o1, none⟩) width kq) := two_cells HB2.out hb hp cp' cq; clear hb2))
        go_wp2_with fail
        go_roundw
        case rel => exact ⟨q' + 1 + 1, by omega, by go_num, HB2.out⟩
        case measure => simp [intOf]; omega
    · have hqm' : q = ps.length := by omega
      go_wp2_with (at_make; refine wpList_make_full _ rfl _ _ 74 rfl w.heap.size 4 i4 (.bool false) 1 Tryf.underlying74 hi4 hz40 hz41 _ _ _ _ ps.length rfl rfl (by rfl) (by rfl) (by rw [hz42]; omega) (by unfold maxLen; omega) (by have := hb.size; omega) ?_; intro w1 hown hgrow)
      have HS0 := hid (set_start hown)
      have hb1 : Below w.heap.size w w1 := hb.grown hgrow hb.size (fun k h => by cases h)
      clear hown hgrow hb hqm' hqm
      generalize wr.heap.size = gh at HS0 ⊢
      go_loopw [64] (fun i wx => ∃ (j : Nat) (H : List Bool), j ≤ rs.length ∧ i = .int .i64 j ∧ SetI w wx gh ps.length (fun i p => p < ps.length ∧ ((el (rowAt rs i) sub).toList == name.toList) = true ∧ rowAt rs i = rowAt ps p) j H) (fun i _ => rs.length - (intOf i).toNat)
      case atStart => exact ⟨0, _, Nat.zero_le _, rfl, HS0.out, by simp, fun p _ ⟨j, hj, _⟩ => by omega, hb1⟩
      case round =>
        obtain ⟨j, H, hj, rfl, hI⟩ := hrel
        have HJ := hid hI
        have hb := hI.below
        clear hI HS0 hb1
        by_cases hjk : j < rs.length
        · have cj := (hb.cell (p := ⟨gr, or_ + j, none⟩) hr).trans (HRC.out j hjk).1
          have HRJ := hid (HRC.out j hjk).2
          obtain ⟨aj, kj, evj, hxj⟩ := HRJ.out
          rw [HRW.out j hjk] at evj
          rw [evj] at cj
          rcases hxj with h | ⟨g1, o1, rfl, hg1, hc1⟩
          · have := HRW.out j hjk; omega
          have ce := (hb.cell (p := ⟨g1, o1 + sub, none⟩) hg1).trans (hc1 sub (by rw [HRW.out j hjk]; exact hsw))
          clear hc1
          cases hq : ((el (rowAt rs j) sub).toList == name.toList)
          · have HNX := hid (HJ.out.skip (fun p hp => by have := hp.2.1; rw [hq] at this; exact Bool.noConfusion this))
            generalize el (rowAt rs j) sub = x at ce hq
            have hq2 : (x.toList != name.toList) = true := by simp [bne, hq]
            go_wp2_with fail
            go_roundw
            case rel => exact ⟨j + 1, H, by omega, by go_num, HNX.out⟩
            case measure => simp [intOf]; omega
          · obtain ⟨p, hp0, hpe⟩ := HIN.out j hjk hq
            have HHIT := hid hq
            have HPE := hid hpe
            generalize el (rowAt rs j) sub = x at ce hq
            have hq2 : (x.toList != name.toList) = false := by simp [bne, hq]
            go_wp2_with fail
            go_loopw [15, 16] (fun lo hi wx => ∃ l h : Nat, lo = .int .i64 l ∧ hi = .int .i64 h ∧ l ≤ p ∧ p ≤ h ∧ h ≤ ps.length ∧ l ≤ h ∧ SetI w wx gh ps.length (fun i p => p < ps.length ∧ ((el (rowAt rs i) sub).toList == name.toList) = true ∧ rowAt rs i = rowAt ps p) j H) (fun lo hi _ => (intOf hi).toNat - (intOf lo).toNat)
            case atStart => exact ⟨0, ps.length, rfl, rfl, by omega, by omega, by omega, by omega, HJ.out⟩
            case round =>
              obtain ⟨l, h, rfl, rfl, a1, a2, a3, a4, hI⟩ := hrel
              have HJ2 := hid hI
              have hbx := hI.below
              clear hI HJ cj ce hb
              by_cases hlh : l < h
              · have hmm : l + (h - l) / 2 < ps.length := by omega
                have cm := (hbx.cell (p := ⟨gp, l + (h - l) / 2, none⟩) hp).trans (HPC.out _ hmm).1
                have HCC := hid (cmp_call (w := wr) (HPC.out _ hmm).2 HRJ.out hbx (by rw [(HPW.out _ hmm).1]; exact hw))
                rw [evj, ← HPE.out] at HCC
                rcases (show (l + (h - l) / 2 < p) ∨ (p ≤ l + (h - l) / 2) from by omega) with hlt | hge
                · have HL := HLT.out _ p hlt hp0
                  generalize rc (rowAt ps (l + (h - l) / 2)) (rowAt ps p) = r at HCC HL
                  go_wp2_with (go_at_call 17; refine HCC.out.mono ?_; rintro e w2 ⟨rfl, hb2⟩; have HN := hid (HJ2.out.keep hb2); clear hb2)
                  go_roundw
                  case rel => exact ⟨l + (h - l) / 2 + 1, h, by go_num, rfl, by omega, by omega, by omega, by omega, HN.out⟩
                  case measure => simp only [intOf]; omega
                · have HG : 0 ≤ rc (rowAt ps (l + (h - l) / 2)) (rowAt ps p) := by
                    by_cases he : l + (h - l) / 2 = p
                    · rw [he, HS.out]; exact Int.le_refl _
                    · exact Int.le_of_lt (HGT.out p _ (by omega) hmm)
                  generalize rc (rowAt ps (l + (h - l) / 2)) (rowAt ps p) = r at HCC HG
                  go_wp2_with (go_at_call 17; refine HCC.out.mono ?_; rintro e w2 ⟨rfl, hb2⟩; have HN := hid (HJ2.out.keep hb2); clear hb2)
                  go_roundw
                  case rel => exact ⟨l, l + (h - l) / 2, rfl, by go_num, by omega, by omega, by omega, by omega, HN.out⟩
                  case measure => simp only [intOf]; omega
              · obtain rfl : p = l := by omega
                obtain rfl : p = h := by omega
                have cm := (hbx.cell (p := ⟨gp, p, none⟩) hp).trans (HPC.out _ hp0).1
                have HCC := hid (cmp_call (w := wr) (HPC.out _ hp0).2 HRJ.out hbx (by rw [(HPW.out _ hp0).1]; exact hw))
                rw [evj, ← HPE.out, HS.out] at HCC
                go_wp2_with (go_at_call 17; refine HCC.out.mono ?_; rintro e w2 ⟨rfl, hb2⟩; have HN := hid (HJ2.out.keep hb2); clear hb2; have hcw := HN.out.cell hp0; have hfw := HN.out.own.frozenAt p)
                go_roundw
                case rel => exact ⟨j + 1, H.set p true, by omega, by go_num, HN.out.mark hp0 (fun p' hp' => by
                  by_cases he : p' = p
                  · exact he
                  · exfalso
                    have e1 : rowAt ps p' = rowAt ps p := hp'.2.2.symm.trans HPE.out.symm
                    rcases Nat.lt_or_gt_of_ne he with h1 | h1
                    · have := HLT.out p' p h1 hp0
                      rw [e1, HS.out] at this
                      omega
                    · have := HLT.out p p' h1 hp'.1
                      rw [e1, HS.out] at this
                      omega)⟩
                case measure => simp [intOf]; omega
        · have hall : ∀ t, t < ps.length → wr.cell? ⟨gh, t, none⟩ = some (.bool true) := fun t ht => by
            obtain ⟨i, hi, hiy⟩ := HON.out t ht
            have := HJ.out.hit t ht ⟨i, by omega, ht, hiy⟩
            rw [HJ.out.own.cellAt t (by omega)]
            simp [this]
          have HALL := hid hall
          clear hall
          go_wp2_with fail
          go_loopw [114] (fun i wx => ∃ t : Nat, t ≤ ps.length ∧ i = .int .i64 t ∧ wr = wx) (fun i _ => ps.length - (intOf i).toNat)
          case atStart => exact ⟨0, Nat.zero_le _, rfl, rfl⟩
          case round =>
            obtain ⟨t, ht, rfl, rfl⟩ := hrel
            by_cases htq : t < ps.length
            · have hct := HALL.out t htq
              go_wp2_with fail
              go_roundw
              case rel => exact ⟨t + 1, by omega, by go_num, by trivial⟩
              case measure => simp [intOf]; omega
            · go_wp2_with fail
              go_ret
              exact ⟨rfl, hb⟩
end Go.Proofs.Qxb6614485aFmt
