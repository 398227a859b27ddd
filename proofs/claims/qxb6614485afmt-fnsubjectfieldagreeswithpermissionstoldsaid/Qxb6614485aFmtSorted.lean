/- sortedRules (15). -/
import Derived.Test.Qxb6614485aFmtComp
import Derived.Test.Qxb6614485aFmtSort
import Derived.Deep.AppendLies
namespace Go.Proofs.Qxb6614485aFmt
open Go.RowKit
/-- does the row keep? -/
def kp (sub : Nat) (name : ByteArray) (r : List ByteArray) : Bool := (el r sub).toList == name.toList
/-- what the loop knows: w is the world at the call, ps the kept rows so far -/
structure KI (w wr : World) (v : Value) (sub : Nat) (name : ByteArray) (rs : List (List ByteArray)) (j : Nat) (ps : List Pr) : Prop where
  own : wr.ownsRow w.heap.size 22 1 v ps.length (ps.map (·.1))
  blk : ∃ b c, v = .slice (some ⟨b, 0, none⟩) ps.length c
  rows : ∀ p, p ∈ ps → RowT wr p.1 p.2
  from_ : ∀ p, p ∈ ps → ∃ i, i < j ∧ kp sub name (rowAt rs i) = true ∧ rowAt rs i = p.2
  all : ∀ i, i < j → kp sub name (rowAt rs i) = true → ∃ p, p ∈ ps ∧ p.2 = rowAt rs i
  len : ps.length ≤ j
  below : Below w.heap.size w wr
theorem KI.keep {w wr w2 : World} {v : Value} {sub : Nat} {name : ByteArray} {rs : List (List ByteArray)} {j : Nat} {ps : List Pr} (h : KI w wr v sub name rs j ps) (hb : Below wr.heap.size wr w2) : KI w w2 v sub name rs j ps :=
  ⟨h.own.kept (row := none) ⟨hb.os, hb.tape, hb.output, hb.size, fun k hk _ => hb.block k hk⟩ (.inr (by obtain ⟨b, c, rfl⟩ := h.blk; simp [Value.ownBlock])), h.blk, fun p hp => (h.rows p hp).keep (T9.ofBelow hb), h.from_, h.all, h.len, h.below.trans (hb.mono h.below.size)⟩
theorem KI.skip {w wr : World} {v : Value} {sub : Nat} {name : ByteArray} {rs : List (List ByteArray)} {j : Nat} {ps : List Pr} (h : KI w wr v sub name rs j ps) (hn : kp sub name (rowAt rs j) = false) : KI w wr v sub name rs (j + 1) ps :=
  ⟨h.own, h.blk, h.rows, fun p hp => by obtain ⟨i, h1, h2⟩ := h.from_ p hp; exact ⟨i, by omega, h2⟩, fun i hi hk => h.all i (by
    by_cases hij : i = j
    · subst hij; rw [hn] at hk; cases hk
    · omega) hk, by have := h.len; omega, h.below⟩
theorem own_typ {w : World} {base blk cap n : Nat} {xs : List Value} (h : w.ownsRow base 22 1 (.slice (some ⟨blk, 0, none⟩) n cap) n xs) : ∃ cur, w.heap[blk]? = some (.cells cur 22 (0, 0)) := (CI.start h).typ
theorem KI.app {w wr w2 : World} {v v' u : Value} {sub : Nat} {name : ByteArray} {rs : List (List ByteArray)} {j : Nat} {ps : List Pr} (h : KI w wr v sub name rs j ps) (hk : kp sub name (rowAt rs j) = true) (hu : RowT wr u (rowAt rs j)) (s : Obj)
    (ho : w2.ownsRow w.heap.size 22 1 v' (ps.length + 1) (ps.map (·.1) ++ [u])) (hg : (wr.alloc s).grownBy w2 v.ownBlock) (hv : v' = .slice none 0 0 ↔ v = .slice none 0 0 ∧ 1 = 0) : KI w w2 v' sub name rs (j + 1) (ps ++ [(u, rowAt rs j)]) := by
  obtain ⟨b, c, rfl⟩ := h.blk
  obtain ⟨cur, hc⟩ := own_typ h.own
  have hlt := h.own.lt b rfl
  have hba : Below wr.heap.size wr (wr.alloc s) := (Below.refl _ _).alloc (Nat.le_refl _) _
  have t1 : T9 wr w2 := (T9.ofBelow hba).trans (T9.ofGrown (k := b) hg (by rw [hba.block b hlt.2]; exact hc) (by decide))
  refine ⟨by simpa using ho, ?_, ?_, ?_, ?_, by have := h.len; simp; omega, (h.below.alloc h.below.size _).grown hg (by have := h.below.size; simp; omega) (fun k hk => by simp [Value.ownBlock] at hk; omega)⟩
  · rcases ho.2 with ⟨_, h0⟩ | ⟨g, cap, cur', e, _⟩
    · omega
    · exact ⟨g, cap, by simpa using e⟩
  · intro p hp
    rcases List.mem_append.1 hp with hp | hp
    · exact (h.rows p hp).keep t1
    · rw [List.mem_singleton.1 hp]; exact hu.keep t1
  · intro p hp
    rcases List.mem_append.1 hp with hp | hp
    · obtain ⟨i, h1, h2⟩ := h.from_ p hp; exact ⟨i, by omega, h2⟩
    · rw [List.mem_singleton.1 hp]; exact ⟨j, by omega, hk, rfl⟩
  · intro i hi hki
    by_cases hij : i = j
    · subst hij; exact ⟨(u, rowAt rs i), by simp, rfl⟩
    · obtain ⟨p, h1, h2⟩ := h.all i (by omega) hki
      exact ⟨p, by simp [h1], h2⟩
theorem KI.start (w : World) (sub : Nat) (name : ByteArray) (rs : List (List ByteArray)) : KI w (w.alloc (.cells #[] 22)) (.slice (some ⟨w.heap.size, 0, none⟩) 0 0) sub name rs 0 [] :=
  ⟨by simpa using World.ownsRow_lit (base := w.heap.size) (e := 22) (size := 1) w #[] 0 (Nat.le_refl _) (by simp [maxLen]) (by simp), ⟨_, _, rfl⟩, by simp, by simp, by simp, by simp, (Below.refl _ _).alloc (Nat.le_refl _) _⟩
/-- behind the sort: slices.CompactFunc's call -/
theorem sort_fin {w wr w2 : World} {sub width j b5 c5 : Nat} {name : ByteArray} {rs : List (List ByteArray)} {ps qs : List Pr} (hk : KI w wr (.slice (some ⟨b5, 0, none⟩) ps.length c5) sub name rs j ps) (hj : j = rs.length) (hrw : ∀ i, i < rs.length → (rowAt rs i).length = width) (hw : width ≤ 2000000)
    (hp : qs.Perm ps) (ho : w2.ownsRow w.heap.size 22 1 (.slice (some ⟨b5, 0, none⟩) ps.length c5) ps.length (qs.map (·.1))) (hs : ∀ i j, i < j → j < qs.length → rc (qs.getD i (.slice none 0 0, [])).2 (qs.getD j (.slice none 0 0, [])).2 ≤ 0) (ht : T9 wr w2) (hg : wr.grownBy w2 (some b5)) (hl : rs.length ≤ 100000) :
    Calls Tryf.prog 31 #[.slice (some ⟨b5, 0, none⟩) ps.length c5, .func (.func 32) #[] #[]] w2 fun e w' => ∃ zs, e = .returned (.slice (some ⟨b5, 0, none⟩) (List.length (α := Pr) zs) c5) ∧ w.heap.size ≤ b5 ∧ b5 < w'.heap.size ∧ zs.length ≤ rs.length ∧
      (∀ i, i < zs.length → w'.cell? ⟨b5, i, none⟩ = some (pt zs i).1 ∧ RowAt w' (pt zs i).1 (pt zs i).2) ∧ zs.Pairwise (fun a b => rc a.2 b.2 < 0) ∧
      (∀ q, q ∈ zs → ∃ i, i < rs.length ∧ kp sub name (rowAt rs i) = true ∧ rowAt rs i = q.2) ∧ (∀ i, i < rs.length → kp sub name (rowAt rs i) = true → ∃ q, q ∈ zs ∧ q.2 = rowAt rs i) ∧ Below w.heap.size w w' := by
  subst hj
  have hlen : qs.length = ps.length := hp.length_eq
  have hpl := hk.len
  rw [← hlen] at ho
  have hrow : ∀ q, q ∈ qs → RowT w2 q.1 q.2 ∧ q.2.length ≤ 2000000 := fun q hq => by
    have hq' := hp.mem_iff.1 hq
    refine ⟨(hk.rows q hq').keep ht, ?_⟩
    obtain ⟨i, h1, _, h3⟩ := hk.from_ q hq'
    rw [← h3, hrw i h1]; exact hw
  have hb5 := hk.own.lt b5 rfl
  rw [← hlen]
  refine (comp_all w2 w.heap.size b5 c5 qs ho hrow (by omega) hs).mono ?_
  rintro e w' ⟨zs, rfl, hon, hzl, hcell, ht3, hg3⟩
  have hB : Below w.heap.size w w' := (hk.below.grown hg hk.below.size (fun k h => by cases h; exact hb5.1)).grown hg3 (by have := hk.below.size; have := hg.size; omega) (fun k h => by cases h; exact hb5.1)
  refine ⟨zs, rfl, hb5.1, by have := hg.size; have := hg3.size; omega, by omega, fun i hi => ⟨hcell i hi, ((hrow _ (hon.sub _ (pt_mem zs i hi))).1.keep ht3).row⟩, hon.asc, fun q hq => ?_, fun i hi hki => ?_, hB⟩
  · obtain ⟨i, h1, h2, h3⟩ := hk.from_ q (hp.mem_iff.1 (hon.sub q hq))
    exact ⟨i, h1, h2, h3⟩
  · obtain ⟨p, h1, h2⟩ := hk.all i hi hki
    obtain ⟨q, h3, h4⟩ := hon.cov p (hp.mem_iff.2 h1)
    exact ⟨q, h3, h4.trans h2⟩
set_option maxHeartbeats 4000000 in
set_option maxRecDepth 100000 in
theorem sorted_any (w : World) (vR : Value) (rs : List (List ByteArray)) (b1 b2 sub width : Nat) (name : ByteArray) (h : RowsAt w vR rs) (hl : rs.length ≤ 100000) (hw : width ≤ 2000000) (hsw : sub < width) (hrw : ∀ i, i < rs.length → (rowAt rs i).length = width)
    (l1 : b1 < w.heap.size) (l2 : b2 < w.heap.size) (c1 : w.cell? ⟨b1, 0, none⟩ = some (.int .i64 sub)) (c2 : w.cell? ⟨b2, 0, none⟩ = some (.string name)) :
    Calls Tryf.prog 15 #[vR, .func (.func 16) #[] #[.pointer (some ⟨b1, 0, none⟩), .pointer (some ⟨b2, 0, none⟩)]] w fun e w' => ∃ blk cap qs, e = .returned (.slice (some ⟨blk, 0, none⟩) (List.length (α := Pr) qs) cap) ∧ w.heap.size ≤ blk ∧ blk < w'.heap.size ∧ qs.length ≤ rs.length ∧
      (∀ i, i < qs.length → w'.cell? ⟨blk, i, none⟩ = some (pt qs i).1 ∧ RowAt w' (pt qs i).1 (pt qs i).2) ∧ qs.Pairwise (fun a b => rc a.2 b.2 < 0) ∧
      (∀ q, q ∈ qs → ∃ i, i < rs.length ∧ kp sub name (rowAt rs i) = true ∧ rowAt rs i = q.2) ∧ (∀ i, i < rs.length → kp sub name (rowAt rs i) = true → ∃ q, q ∈ qs ∧ q.2 = rowAt rs i) ∧ Below w.heap.size w w' := by
  obtain ⟨i0, hi, hz0, hz1, hz2⟩ := info_parts Tryf.info22
  obtain ⟨a, c, rfl, h⟩ := h
  have H := hid h
  have HW := hid hrw
  have HC := hid (And.intro c1 c2)
  clear h hrw c1 c2
  go_enter Tryf.func15, Tryf.ntmps15
  go_wp2_with fail
  go_loopw [5, 11] (fun x5 i wr => ∃ (j : Nat) (ps : List Pr), j ≤ rs.length ∧ i = .int .i64 j ∧ KI w wr x5 sub name rs j ps) (fun _ i _ => rs.length - (intOf i).toNat)
  case atStart => exact ⟨0, [], Nat.zero_le _, rfl, KI.start w sub name rs⟩
  case round =>
    obtain ⟨j, ps, hj, rfl, hki⟩ := hrel
    obtain ⟨b5, c5, rfl⟩ := hki.blk
    have hpl := hki.len
    have HK := hid hki
    clear hki
    by_cases hjn : j < rs.length
    · rcases H.out with h | ⟨g, o, vf, rfl, hg, hcell⟩
      · omega
      have cj := (HK.out.below.cell (p := ⟨g, o + j, none⟩) hg).trans (hcell j hjn).1
      have HRJ := hid ((hcell j hjn).2.keep HK.out.below)
      clear hcell
      have HCK := hid (keep_any (vf j) (rowAt rs j) name b1 b2 sub wr HRJ.out (by rw [HW.out j hjn]; exact hsw) ((HK.out.below.cell (p := ⟨b1, 0, none⟩) l1).trans HC.out.1) ((HK.out.below.cell (p := ⟨b2, 0, none⟩) l2).trans HC.out.2))
      cases hq : kp sub name (rowAt rs j)
      · have hq' : ((el (rowAt rs j) sub).toList == name.toList) = false := hq
        rw [hq'] at HCK
        go_wp2_with (first
          | (go_at_call 16; refine HCK.out.mono ?_; rintro e w2 ⟨rfl, hb2⟩; have HN := hid ((HK.out.keep hb2).skip hq); clear hb2))
        go_roundw
        case rel => exact ⟨j + 1, _, by omega, by go_num, HN.out⟩
        case measure => simp [intOf]; omega
      · have hq' : ((el (rowAt rs j) sub).toList == name.toList) = true := hq
        rw [hq'] at HCK
        go_wp2_with (first
          | (go_at_call 16; refine HCK.out.mono ?_; rintro e w2 ⟨rfl, hb2⟩; have HN := hid (HK.out.keep hb2); have HRJ2 := hid (HRJ.out.keep hb2); clear hb2)
          | (go_at_call 28; refine (clone28 (vf j) (rowAt rs j) _ HRJ2.out (by rw [HW.out j hjn]; exact hw)).mono ?_; rintro e w3 ⟨u, rfl, hr3, hb3⟩; obtain ⟨av, nv, cv, rfl⟩ := hr3.row.form; have HN3 := hid (HN.out.keep hb3); have HR3 := hid hr3; clear hr3 hb3)
          | (at_builtin; refine wpList_append_own (w3.alloc (.cells #[.slice av nv cv] 22)) rfl (.tmp 18) (.tmp 21) 23 rfl w.heap.size 22 i0 (.slice none 0 0) 1 24 Tryf.underlying23 hi hz0 hz1 hz2 rfl (by decide) (.slice (some ⟨b5, 0, none⟩) ps.length c5) ps.length (ps.map (·.1)) (by rfl) (by exact HN3.out.own.alloc _) ⟨w3.heap.size, 0, none⟩ 1 1 [.slice av nv cv] (by rfl) (by rfl)
              (by exact World.news_of_block (cs := #[.slice av nv cv]) (t := 22) (fr := (0, 0)) (heap_alloc_new w3 _)) (by simp [Value.oneCell']) (by unfold maxLen; omega) (by omega) (by exact Nat.le_trans HN3.out.below.size (le_alloc _ _)) ?_; intro v' w4 hown hgrow hv; have HX := hid (HN3.out.app hq HR3.out _ hown hgrow hv); clear hown hgrow hv))
        go_roundw
        case rel => exact ⟨j + 1, _, by omega, by go_num, HX.out⟩
        case measure => simp [intOf]; omega
    · have hjn' : j = rs.length := by omega
      have hrow : ∀ p, p ∈ ps → RowT wr p.1 p.2 ∧ p.2.length ≤ 2000000 := fun p hp => ⟨HK.out.rows p hp, by
        obtain ⟨i, h1, _, h3⟩ := HK.out.from_ p hp
        rw [← h3, HW.out i (by omega)]; exact hw⟩
      have HSRT := hid (sort_any wr w.heap.size b5 c5 ps HK.out.own hrow (by omega))
      clear hrow
      go_wp2_with (first
        | (go_at_call 29; refine HSRT.out.mono ?_; rintro e w2 ⟨rfl, qs, hperm, hown2, hsrt, ht2, hg2⟩; have HQ := hid (sort_fin HK.out hjn' HW.out hw hperm hown2 hsrt ht2 hg2 hl); clear hperm hown2 hsrt ht2 hg2)
        | (go_at_call 31; refine HQ.out.mono ?_; rintro e w3 ⟨rs2, rfl, hfin⟩; have HFIN := hid hfin; clear hfin))
      go_ret
      obtain ⟨f1, f2, f3, f4, f5, f6, f7, f8⟩ := HFIN.out
      exact ⟨b5, c5, rs2, rfl, f1, f2, f3, f4, f5, f6, f7, f8⟩
end Go.Proofs.Qxb6614485aFmt
