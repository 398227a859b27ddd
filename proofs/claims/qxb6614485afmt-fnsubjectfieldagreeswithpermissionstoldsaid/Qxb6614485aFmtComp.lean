/- slices.CompactFunc (31) with slices.Equal (32). -/
import Derived.Test.Qxb6614485aFmtPlain
import Derived.Test.Qxb6614485aFmtPerm
import Derived.Test.Qxb6614485aFmtKeep
import Derived.Lib.SliceRun
namespace Go.Proofs.Qxb6614485aFmt
open Go.RowKit
/-- what both loops know of the world: w is the world at the call -/
structure CI (w wr : World) (base blk cap n : Nat) (xs : List Value) : Prop where
  own : wr.ownsRow base 22 1 (.slice (some ⟨blk, 0, none⟩) n cap) n xs
  t9 : T9 w wr
  grown : w.grownBy wr (some blk)
theorem CI.keep {w wr w2 : World} {base blk cap n : Nat} {xs : List Value} (h : CI w wr base blk cap n xs) (hb : Below wr.heap.size wr w2) : CI w w2 base blk cap n xs := by
  have hg : wr.grownBy w2 none := ⟨hb.os, hb.tape, hb.output, hb.size, fun j hj _ => hb.block j hj⟩
  refine ⟨h.own.kept hg (.inr (by simp [Value.ownBlock])), h.t9.trans (T9.ofBelow hb), ?_⟩
  have g := h.grown
  exact ⟨hb.os.trans g.os, hb.tape.trans g.tape, hb.output.trans g.output, Nat.le_trans g.size hb.size, fun j hj hne => (hb.block j (Nat.lt_of_lt_of_le hj g.size)).trans (g.block j hj hne)⟩
theorem CI.typ {w wr : World} {base blk cap n : Nat} {xs : List Value} (h : CI w wr base blk cap n xs) : ∃ cur, wr.heap[blk]? = some (.cells cur 22 (0, 0)) := by
  rcases h.own.2 with ⟨h', _⟩ | ⟨g, cap', cur, h', b1, b2, _⟩
  · simp at h'
  · simp only [Value.slice.injEq, Option.some.injEq, Addr.mk.injEq, and_true, true_and] at h'
    obtain ⟨rfl, rfl⟩ := h'
    exact ⟨cur, b2⟩
theorem CI.set {w wr : World} {base blk cap n : Nat} {xs : List Value} (h : CI w wr base blk cap n xs) (k : Nat) (u : Value) : CI w (wr.setCell ⟨blk, k, none⟩ u) base blk cap n (xs.set k u) := by
  obtain ⟨cur, hc⟩ := h.typ
  have hg : wr.grownBy (wr.setCell ⟨blk, k, none⟩ u) (some blk) := ⟨rfl, rfl, rfl, by simp, fun j _ hne => heap_setCell_other wr ⟨blk, k, none⟩ j u (fun e => hne (by rw [e]))⟩
  have g := h.grown
  exact ⟨(h.own.stored k u).1, h.t9.trans (T9.ofGrown hg hc (by decide)), ⟨hg.os.trans g.os, hg.tape.trans g.tape, hg.output.trans g.output, Nat.le_trans g.size hg.size, fun j hj hne => (hg.block j (Nat.lt_of_lt_of_le hj g.size) hne).trans (g.block j hj hne)⟩⟩
theorem CI.cell {w wr : World} {base blk cap n : Nat} {xs : List Value} (h : CI w wr base blk cap n xs) (k : Nat) (hk : k < n) : wr.cell? ⟨blk, k, none⟩ = xs[k]? := h.own.cellAt k (by omega)
theorem CI.start {w : World} {base blk cap n : Nat} {xs : List Value} (h : w.ownsRow base 22 1 (.slice (some ⟨blk, 0, none⟩) n cap) n xs) : CI w w base blk cap n xs :=
  ⟨h, T9.refl _, rfl, rfl, rfl, Nat.le_refl _, fun _ _ _ => rfl⟩
/-- slices.Equal's call in a later world -/
theorem eq_call {w wr : World} {v1 v2 : Value} {x y : List ByteArray} (h1 : RowT w v1 x) (h2 : RowT w v2 y) (ht : T9 w wr) (hl : x.length ≤ 2000000) :
    Calls Tryf.prog 32 #[v1, v2] wr fun e w' => e = .returned (.bool (beqR x y)) ∧ Below wr.heap.size wr w' :=
  eqRow v1 v2 x y wr (h1.keep ht).row (h2.keep ht).row hl
theorem own_cap {w : World} {base blk cap n : Nat} {xs : List Value} (h : w.ownsRow base 22 1 (.slice (some ⟨blk, 0, none⟩) n cap) n xs) : n ≤ cap := by
  rcases h.2 with ⟨h', _⟩ | ⟨g, cap', cur, h', b1, b2, b3, _⟩
  · simp at h'
  · simp only [Value.slice.injEq, Option.some.injEq, Addr.mk.injEq, and_true, true_and] at h'
    obtain ⟨rfl, rfl⟩ := h'
    exact b3
theorem CI.two {w wr : World} {base blk cap k : Nat} {ps : List Pr} (h : CI w wr base blk cap ps.length (ps.map (·.1))) (hk : k + 1 < ps.length) : wr.cell? ⟨blk, k, none⟩ = some (pt ps k).1 ∧ wr.cell? ⟨blk, k + 1, none⟩ = some (pt ps (k + 1)).1 := by
  refine ⟨?_, ?_⟩
  · rw [h.cell _ (by omega), List.getElem?_map, pt_get ps _ (by omega)]; rfl
  · rw [h.cell _ hk, List.getElem?_map, pt_get ps _ hk]; rfl
theorem drew_below {wr w2 : World} (h : Below wr.drew.heap.size wr.drew w2) : Below wr.heap.size wr w2 := ⟨h.os, h.tape, h.output, h.size, h.block⟩
/-- what the inner loop knows -/
structure Inn (w wr : World) (base blk cap : Nat) (ps : List Pr) (k' k k2 : Nat) (qs : List Pr) (xs : List Value) : Prop where
  ci : CI w wr base blk cap ps.length xs
  cp : Cp ps (k' + 1 + k2) qs
  len : qs.length = k
  lo : k' + 1 ≤ k
  hi : k ≤ k' + k2
  done : ∀ i, i < k → xs[i]? = some (pt qs i).1
  rest : ∀ i, k' + k2 ≤ i → i < ps.length → xs[i]? = some (pt ps i).1
theorem Inn.start {w wr : World} {base blk cap k' : Nat} {ps : List Pr} (h : CI w wr base blk cap ps.length (ps.map (·.1))) (hc : Cp ps (k' + 1 + 1) (ps.take (k' + 1))) (hk : k' + 1 < ps.length) : Inn w wr base blk cap ps k' (k' + 1) 1 (ps.take (k' + 1)) (ps.map (·.1)) := by
  refine ⟨h, hc, by simp; omega, Nat.le_refl _, Nat.le_refl _, fun i hi => ?_, fun i _ hi => ?_⟩
  · rw [List.getElem?_map, pt_get ps i (by omega)]
    have : pt (ps.take (k' + 1)) i = pt ps i := by
      have h1 := pt_get (ps.take (k' + 1)) i (by simp; omega)
      rw [List.getElem?_take, if_pos hi, pt_get ps i (by omega)] at h1
      exact (Option.some.inj h1).symm
    rw [this]; rfl
  · rw [List.getElem?_map, pt_get ps i hi]; rfl
theorem Inn.keep {w wr w2 : World} {base blk cap k' k k2 : Nat} {ps qs : List Pr} {xs : List Value} (h : Inn w wr base blk cap ps k' k k2 qs xs) (hb : Below wr.heap.size wr w2) : Inn w w2 base blk cap ps k' k k2 qs xs :=
  ⟨h.ci.keep hb, h.cp, h.len, h.lo, h.hi, h.done, h.rest⟩
theorem Inn.two {w wr : World} {base blk cap k' k m : Nat} {ps qs : List Pr} {xs : List Value} (h : Inn w wr base blk cap ps k' k (m + 1) qs xs) (hm : k' + 1 + (m + 1) < ps.length) : wr.cell? ⟨blk, k' + 1 + m, none⟩ = some (pt ps (k' + 1 + m)).1 ∧ wr.cell? ⟨blk, k' + 1 + (m + 1), none⟩ = some (pt ps (k' + 1 + (m + 1))).1 :=
  ⟨by rw [h.ci.cell _ (by omega)]; exact h.rest _ (by omega) (by omega), by rw [h.ci.cell _ hm]; exact h.rest _ (by omega) hm⟩
theorem Inn.two' {w wr : World} {base blk cap k' k m : Nat} {ps qs : List Pr} {xs : List Value} {v : Value} (h : Inn w wr base blk cap ps k' k (m + 1) qs xs) (hm : k' + 1 + (m + 1) < ps.length) (hv : (pt ps (k' + 1 + (m + 1))).1 = v) : wr.cell? ⟨blk, k' + 1 + m, none⟩ = some (pt ps (k' + 1 + m)).1 ∧ wr.cell? ⟨blk, k' + 1 + (m + 1), none⟩ = some v := by
  subst hv
  exact h.two hm
theorem Inn.place {w wr : World} {base blk cap k' k k2 : Nat} {ps qs : List Pr} {xs : List Value} (h : Inn w wr base blk cap ps k' k k2 qs xs) (hk : k < ps.length) : ∃ z, wr.cell? ⟨blk, k, none⟩ = some z ∧ wr.frozen? ⟨blk, k, none⟩ = false := by
  have hl := h.ci.own.1
  refine ⟨xs[k]'(by omega), ?_, h.ci.own.frozenAt k⟩
  rw [h.ci.cell k hk, List.getElem?_eq_getElem]
theorem Inn.skip {w wr : World} {base blk cap k' k m : Nat} {ps qs : List Pr} {xs : List Value} (h : Inn w wr base blk cap ps k' k (m + 1) qs xs) (he : (pt ps (k' + 1 + (m + 1))).2 = (pt ps (k' + 1 + m)).2) : Inn w wr base blk cap ps k' k (m + 1 + 1) qs xs :=
  ⟨h.ci, h.cp.skip he, h.len, h.lo, by have := h.hi; omega, h.done, fun i h1 h2 => h.rest i (by omega) h2⟩
theorem Inn.put {w wr : World} {base blk cap k' k m : Nat} {ps qs : List Pr} {xs : List Value} {v : Value} (h : Inn w wr base blk cap ps k' k (m + 1) qs xs) (hm : k' + 1 + (m + 1) < ps.length) (hv : (pt ps (k' + 1 + (m + 1))).1 = v)
    (hlt : rc (pt ps (k' + 1 + m)).2 (pt ps (k' + 1 + (m + 1))).2 < 0) : Inn w (wr.setCell ⟨blk, k, none⟩ v) base blk cap ps k' (k + 1) (m + 1 + 1) (qs ++ [pt ps (k' + 1 + (m + 1))]) (xs.set k v) := by
  subst hv
  have hhi := h.hi
  have hxl := h.ci.own.1
  have hql := h.len
  refine ⟨h.ci.set k _, h.cp.take hm hlt, by simp [hql], by have := h.lo; omega, by omega, fun i hi => ?_, fun i h1 h2 => ?_⟩
  · by_cases hik : i = k
    · subst hik
      have : pt (qs ++ [pt ps (k' + 1 + (m + 1))]) i = pt ps (k' + 1 + (m + 1)) := by simp [pt, List.getD, hql]
      rw [this, List.getElem?_set_self (by omega)]
    · have : pt (qs ++ [pt ps (k' + 1 + (m + 1))]) i = pt qs i := by
        unfold pt List.getD
        rw [List.getElem?_append_left (by omega)]
      rw [this, List.getElem?_set_ne (by omega)]
      exact h.done i (by omega)
  · rw [List.getElem?_set_ne (by omega)]
    exact h.rest i (by omega) h2
theorem Inn.all {w wr : World} {base blk cap k' k k2 : Nat} {ps qs : List Pr} {xs : List Value} (h : Inn w wr base blk cap ps k' k k2 qs xs) : ∀ i, i < ps.length → (wr.cell? ⟨blk, i, none⟩).isSome = true ∧ wr.frozen? ⟨blk, i, none⟩ = false := fun i hi => by
  have hl := h.ci.own.1
  refine ⟨?_, h.ci.own.frozenAt i⟩
  rw [h.ci.cell i hi, List.getElem?_eq_getElem (by omega)]; rfl
theorem heap_setCells_other (b : Nat) : ∀ (vs : List Value) (o : Nat) (w : World) (j : Nat), j ≠ b → (w.setCells b o vs).heap[j]? = w.heap[j]?
  | [], _, _, _, _ => rfl
  | v :: r, o, w, j, h => by
    rw [World.setCells, heap_setCells_other b r (o + 1) _ j h]
    exact heap_setCell_other w ⟨b, o, none⟩ j v (fun e => h e)
theorem setCells_size (b : Nat) : ∀ (vs : List Value) (o : Nat) (w : World), (w.setCells b o vs).heap.size = w.heap.size ∧ (w.setCells b o vs).os = w.os ∧ (w.setCells b o vs).tape = w.tape ∧ (w.setCells b o vs).output = w.output
  | [], _, _ => ⟨rfl, rfl, rfl, rfl⟩
  | v :: r, o, w => by
    obtain ⟨h1, h2, h3, h4⟩ := setCells_size b r (o + 1) (w.setCell ⟨b, o, none⟩ v)
    rw [World.setCells]
    exact ⟨by rw [h1]; simp, h2, h3, h4⟩
theorem Inn.fin {w wr : World} {base blk cap k' k k2 : Nat} {ps qs : List Pr} {xs : List Value} (h : Inn w wr base blk cap ps k' k k2 qs xs) (he : k' + 1 + k2 = ps.length) :
    qs.length = k ∧ Cp ps ps.length qs ∧ (∀ i, i < k → (wr.setCells blk k (List.replicate (ps.length - k) (.slice none 0 0))).cell? ⟨blk, i, none⟩ = some (pt qs i).1) ∧ T9 w (wr.setCells blk k (List.replicate (ps.length - k) (.slice none 0 0))) ∧ w.grownBy (wr.setCells blk k (List.replicate (ps.length - k) (.slice none 0 0))) (some blk) := by
  obtain ⟨z1, z2, z3, z4⟩ := setCells_size blk (List.replicate (ps.length - k) (.slice none 0 0)) k wr
  obtain ⟨cur, hc⟩ := h.ci.typ
  have hg : wr.grownBy (wr.setCells blk k (List.replicate (ps.length - k) (.slice none 0 0))) (some blk) := ⟨z2, z3, z4, by rw [z1]; exact Nat.le_refl _, fun j _ hne => heap_setCells_other blk _ k wr j (fun e => hne (by rw [e]))⟩
  have g := h.ci.grown
  refine ⟨h.len, he ▸ h.cp, fun i hi => ?_, h.ci.t9.trans (T9.ofGrown hg hc (by decide)), ⟨hg.os.trans g.os, hg.tape.trans g.tape, hg.output.trans g.output, Nat.le_trans g.size hg.size, fun j hj hne => (hg.block j (Nat.lt_of_lt_of_le hj g.size) hne).trans (g.block j hj hne)⟩⟩
  rw [World.cell?_setCells_out _ _ _ _ _ (fun _ _ => .inl hi), h.ci.cell i (by have := h.hi; omega)]
  exact h.done i hi
set_option maxHeartbeats 4000000 in
set_option maxRecDepth 100000 in
theorem comp_any (w : World) (base blk cap : Nat) (ps : List Pr) (h : w.ownsRow base 22 1 (.slice (some ⟨blk, 0, none⟩) ps.length cap) ps.length (ps.map (·.1))) (hr : ∀ p, p ∈ ps → RowT w p.1 p.2 ∧ p.2.length ≤ 2000000) (hn : ps.length ≤ 2000000)
    (hs : ∀ i j, i < j → j < ps.length → rc (pt ps i).2 (pt ps j).2 ≤ 0) (h2 : 2 ≤ ps.length) :
    Calls Tryf.prog 31 #[.slice (some ⟨blk, 0, none⟩) ps.length cap, .func (.func 32) #[] #[]] w fun e w' => ∃ qs, e = .returned (.slice (some ⟨blk, 0, none⟩) qs.length cap) ∧ Cp ps ps.length qs ∧ qs.length ≤ ps.length ∧
      (∀ i, i < qs.length → w'.cell? ⟨blk, i, none⟩ = some (pt qs i).1) ∧ T9 w w' ∧ w.grownBy w' (some blk) := by
  have hcap := own_cap h
  have HI0 := hid (CI.start h)
  have HR := hid hr
  have HS := hid hs
  clear hr hs h
  go_enter Tryf.func31, Tryf.ntmps31
  go_wp2_with fail
  go_loopw [5] (fun i wr => ∃ k : Nat, 1 ≤ k ∧ k ≤ ps.length ∧ i = .int .i64 k ∧ CI w wr base blk cap ps.length (ps.map (·.1)) ∧ Cp ps k (ps.take k)) (fun i _ => ps.length - (intOf i).toNat)
  case atStart => exact ⟨1, by omega, by omega, rfl, HI0.out, Cp.one (by omega)⟩
  case round =>
    obtain ⟨k, hk1, hk, rfl, hci, hcp⟩ := hrel
    have HC := hid hci
    have HP := hid hcp
    clear hci hcp
    by_cases hkn : k < ps.length
    · obtain ⟨k', rfl⟩ : ∃ k', k = k' + 1 := ⟨k - 1, by omega⟩
      have c1 : wr.cell? ⟨blk, k' + 1, none⟩ = some (pt ps (k' + 1)).1 := by rw [HC.out.cell _ hkn, List.getElem?_map, pt_get ps _ hkn]; rfl
      have c0 : wr.cell? ⟨blk, k', none⟩ = some (pt ps k').1 := by rw [HC.out.cell _ (by omega), List.getElem?_map, pt_get ps _ (by omega)]; rfl
      have r1 := HR.out _ (pt_mem ps (k' + 1) hkn)
      have r0 := HR.out _ (pt_mem ps k' (by omega))
      have HCC := hid (eq_call (wr := wr.drew) r1.1 r0.1 HC.out.t9 r1.2)
      clear r1 r0
      have j1 : IntKind.i64.wrap ((k' : Int) + 1 - 1) = (k' : Int) := by rw [Int.add_sub_cancel]; exact wrapi _ (by omega) (by omega)
      have j3 : IntKind.i64.wrap (k' : Int) = (k' : Int) := wrapi _ (by omega) (by omega)
      have j2 : (0 : Int) ≤ (k' : Int) + 1 := by omega
      have i1 : (0 : Int) ≤ (k' : Int) := by omega
      have i2 : (k' : Int) < (ps.length : Int) := by omega
      have i3 : (k' : Int) + 1 < (ps.length : Int) := by omega
      cases hq : beqR (pt ps (k' + 1)).2 (pt ps k').2
      · have HNX := hid (HP.out.take hkn (lt_of_ne (HS.out k' (k' + 1) (by omega) hkn) hq))
        rw [hq] at HCC
        go_wp2_with fail
        go_region_held3 (fun w' => w'.cell? ⟨blk, k', none⟩ = some (pt ps k').1 ∧ w'.cell? ⟨blk, k' + 1, none⟩ = some (pt ps (k' + 1)).1)
          (first
            | with_reducible exact K2
            | go_keep)
          (first
            | (go_at_call 32; refine HCC.out.mono ?_; rintro e w2 ⟨rfl, hb2⟩; have HB2 := hid (HC.out.keep (drew_below hb2)); have K2 : w2.cell? ⟨blk, k', none⟩ = some (pt ps k').1 ∧ w2.cell? ⟨blk, k' + 1, none⟩ = some (pt ps (k' + 1)).1 := (by exact HB2.out.two hkn); clear hb2))
        go_wp2_with fail
        go_roundw
        case rel => exact ⟨k' + 1 + 1, by omega, by omega, by go_num, HB2.out, by rw [take_pt ps _ hkn]; exact HNX.out⟩
        case measure => simp [intOf]; omega
      · have hcne : ¬ cap = k' + 1 := by omega
        have HNX := hid (HP.out.skip ((beqR_iff _ _).1 hq))
        rw [hq] at HCC
        go_wp2_with fail
        go_region_held3 (fun w' => w'.cell? ⟨blk, k', none⟩ = some (pt ps k').1 ∧ w'.cell? ⟨blk, k' + 1, none⟩ = some (pt ps (k' + 1)).1)
          (first
            | with_reducible exact K2
            | go_keep)
          (first
            | (go_at_call 32; refine HCC.out.mono ?_; rintro e w2 ⟨rfl, hb2⟩; have HB2 := hid (HC.out.keep (drew_below hb2)); have K2 : w2.cell? ⟨blk, k', none⟩ = some (pt ps k').1 ∧ w2.cell? ⟨blk, k' + 1, none⟩ = some (pt ps (k' + 1)).1 := (by exact HB2.out.two hkn); clear hb2))
        go_wp2_with fail
        obtain ⟨L, hL⟩ : ∃ L, ps.length - (k' + 1) = L := ⟨_, rfl⟩
        have HIN0 := hid (Inn.start HB2.out HNX.out (by omega))
        clear HCC c1 c0 HNX HP HC HB2 K2
        rw [hL]
        go_loopw [5, 7] (fun x5 x7 wx => ∃ (k k2 : Nat) (qs : List Pr) (xs : List Value), x5 = .int .i64 k ∧ x7 = .int .i64 k2 ∧ 1 ≤ k2 ∧ k2 ≤ L ∧ Inn w wx base blk cap ps k' k k2 qs xs) (fun _ x7 _ => L - (intOf x7).toNat)
        case atStart => exact ⟨k' + 1, 1, _, _, by go_num, rfl, by omega, by omega, HIN0.out⟩
        case round =>
          obtain ⟨k, k2, qs, xs, rfl, rfl, hk21, hk2, hin⟩ := hrel
          have HI := hid hin
          have hlo := hin.lo
          have hhi := hin.hi
          clear hin HIN0
          by_cases hk2n : k2 < L
          · obtain ⟨m, rfl⟩ : ∃ m, k2 = m + 1 := ⟨k2 - 1, by omega⟩
            have hm1 : k' + 1 + (m + 1) < ps.length := by omega
            have c1 := (HI.out.two hm1).2
            have c0 := (HI.out.two hm1).1
            have r1 := HR.out _ (pt_mem ps (k' + 1 + (m + 1)) hm1)
            have r0 := HR.out _ (pt_mem ps (k' + 1 + m) (by omega))
            have HCC := hid (eq_call (wr := wr.drew) r1.1 r0.1 HI.out.ci.t9 r1.2)
            obtain ⟨av, nv, cv, ev⟩ := r1.1.row.form
            rw [ev] at c1 HCC
            clear r1 r0
            have j1 : IntKind.i64.wrap ((m : Int) + 1 - 1) = (m : Int) := by rw [Int.add_sub_cancel]; exact wrapi _ (by omega) (by omega)
            have j3 : IntKind.i64.wrap (m : Int) = (m : Int) := wrapi _ (by omega) (by omega)
            have j2 : (0 : Int) ≤ (m : Int) + 1 := by omega
            have i1 : (0 : Int) ≤ (m : Int) := by omega
            have i2 : (m : Int) < (L : Int) := by omega
            have i3 : (m : Int) + 1 < (L : Int) := by omega
            cases hq : beqR (pt ps (k' + 1 + (m + 1))).2 (pt ps (k' + 1 + m)).2
            · rw [hq] at HCC
              go_wp2_with fail
              go_region_held3 (fun w' => w'.cell? ⟨blk, k' + 1 + m, none⟩ = some (pt ps (k' + 1 + m)).1 ∧ w'.cell? ⟨blk, k' + 1 + (m + 1), none⟩ = some (.slice av nv cv))
                (first
                  | with_reducible exact K2
                  | go_keep)
                (first
                  | (go_at_call 32; refine HCC.out.mono ?_; rintro e w2 ⟨rfl, hb2⟩; have HB2 := hid (HI.out.keep (drew_below hb2)); have K2 : w2.cell? ⟨blk, k' + 1 + m, none⟩ = some (pt ps (k' + 1 + m)).1 ∧ w2.cell? ⟨blk, k' + 1 + (m + 1), none⟩ = some (.slice av nv cv) := (by exact HB2.out.two' hm1 ev); clear hb2))
              obtain ⟨y0, y1, y2⟩ := HB2.out.place (by omega)
              have hkc : (k : Int) < (ps.length : Int) := by omega
              obtain ⟨K2a, K2b⟩ := K2
              go_wp2_with fail
              go_roundw
              case rel => exact ⟨k + 1, m + 1 + 1, _, _, by go_num, by go_num, by omega, by omega, HB2.out.put hm1 ev (lt_of_ne (HS.out _ _ (by omega) hm1) hq)⟩
              case measure => simp [intOf]; omega
            · rw [hq] at HCC
              go_wp2_with fail
              go_region_held3 (fun w' => w'.cell? ⟨blk, k' + 1 + m, none⟩ = some (pt ps (k' + 1 + m)).1 ∧ w'.cell? ⟨blk, k' + 1 + (m + 1), none⟩ = some (.slice av nv cv))
                (first
                  | with_reducible exact K2
                  | go_keep)
                (first
                  | (go_at_call 32; refine HCC.out.mono ?_; rintro e w2 ⟨rfl, hb2⟩; have HB2 := hid (HI.out.keep (drew_below hb2)); have K2 : w2.cell? ⟨blk, k' + 1 + m, none⟩ = some (pt ps (k' + 1 + m)).1 ∧ w2.cell? ⟨blk, k' + 1 + (m + 1), none⟩ = some (.slice av nv cv) := (by exact HB2.out.two' hm1 ev); clear hb2))
              go_wp2_with fail
              go_roundw
              case rel => exact ⟨k, m + 1 + 1, _, _, rfl, by go_num, by omega, by omega, HB2.out.skip ((beqR_iff _ _).1 hq)⟩
              case measure => simp [intOf]; omega
          · have hkl : k < ps.length := by omega
            have hcne : ¬ cap = k := by omega
            have hce := HI.out.all
            have hcl : ∀ ty, (Builtin.clear_ #[23] ty #[.slice (some ⟨blk, k, none⟩) (ps.length - k) (cap - k)]).run Tryf.prog wr = .ok (.tuple #[]) (wr.setCells blk k (List.replicate (ps.length - k) (.slice none 0 0))) :=
              fun ty => Lib.run_clear_slice wr 23 22 ty (.slice none 0 0) Tryf.underlying23 Tryf.zeroValue22 rfl rfl blk k _ _ (by omega) (fun t ht => (hce (k + t) (by omega)).1) (fun t ht => (hce (k + t) (by omega)).2)
            clear hce
            have HE := hid (HI.out.fin (show k' + 1 + k2 = ps.length by omega))
            go_wp2_with fail
            go_ret
            obtain ⟨e1, e2, e3, e4, e5⟩ := HE.out
            exact ⟨qs, by rw [e1]; rfl, e2, by omega, fun i hi => e3 i (by omega), e4, e5⟩
    · have hk' : k = ps.length := by omega
      subst hk'
      go_wp2_with fail
      go_ret
      have hcp := HP.out
      rw [List.take_length] at hcp
      exact ⟨ps, rfl, hcp, Nat.le_refl _, fun i hi => by rw [HC.out.cell i hi, List.getElem?_map, pt_get ps i hi]; rfl, HC.out.t9, HC.out.grown⟩
set_option maxHeartbeats 1000000 in
theorem comp_few (w : World) (blk cap n : Nat) (h : n < 2) : Calls Tryf.prog 31 #[.slice (some ⟨blk, 0, none⟩) n cap, .func (.func 32) #[] #[]] w fun e w' => e = .returned (.slice (some ⟨blk, 0, none⟩) n cap) ∧ w = w' := by
  go_enter Tryf.func31, Tryf.ntmps31
  go_wp2
  go_ret
  exact ⟨rfl, rfl⟩
/-- the rows of ps, each once, ascending -/
structure Once (ps qs : List Pr) : Prop where
  sub : ∀ q, q ∈ qs → q ∈ ps
  cov : ∀ p, p ∈ ps → ∃ q, q ∈ qs ∧ q.2 = p.2
  asc : qs.Pairwise (fun a b => rc a.2 b.2 < 0)
theorem mem_pt {ps : List Pr} {p : Pr} (h : p ∈ ps) : ∃ i, i < ps.length ∧ pt ps i = p := by
  obtain ⟨i, hi, he⟩ := List.getElem_of_mem h
  exact ⟨i, hi, by simp [pt, List.getD, hi, he]⟩
theorem Cp.once {ps qs : List Pr} (h : Cp ps ps.length qs) : Once ps qs :=
  ⟨h.sub, fun p hp => by obtain ⟨i, hi, rfl⟩ := mem_pt hp; exact h.cov i hi, h.asc⟩
/-- slices.CompactFunc (31) over ascending rows -/
theorem comp_all (w : World) (base blk cap : Nat) (ps : List Pr) (h : w.ownsRow base 22 1 (.slice (some ⟨blk, 0, none⟩) ps.length cap) ps.length (ps.map (·.1))) (hr : ∀ p, p ∈ ps → RowT w p.1 p.2 ∧ p.2.length ≤ 2000000) (hn : ps.length ≤ 2000000)
    (hs : ∀ i j, i < j → j < ps.length → rc (pt ps i).2 (pt ps j).2 ≤ 0) :
    Calls Tryf.prog 31 #[.slice (some ⟨blk, 0, none⟩) ps.length cap, .func (.func 32) #[] #[]] w fun e w' => ∃ qs, e = .returned (.slice (some ⟨blk, 0, none⟩) qs.length cap) ∧ Once ps qs ∧ qs.length ≤ ps.length ∧
      (∀ i, i < qs.length → w'.cell? ⟨blk, i, none⟩ = some (pt qs i).1) ∧ T9 w w' ∧ w.grownBy w' (some blk) := by
  by_cases h2 : 2 ≤ ps.length
  · refine (comp_any w base blk cap ps h hr hn hs h2).mono ?_
    rintro e w' ⟨qs, h1, h2, h3⟩
    exact ⟨qs, h1, h2.once, h3⟩
  · refine (comp_few w blk cap ps.length (by omega)).mono ?_
    rintro e w' ⟨rfl, rfl⟩
    have hci := CI.start h
    refine ⟨ps, rfl, ⟨fun _ h => h, fun p hp => ⟨p, hp, rfl⟩, ?_⟩, Nat.le_refl _, fun i hi => by rw [hci.cell i hi, List.getElem?_map, pt_get ps i hi]; rfl, hci.t9, hci.grown⟩
    match ps, h2 with
    | [], _ => simp
    | [p], _ => simp
    | _ :: _ :: _, h2 => simp at h2
end Go.Proofs.Qxb6614485aFmt
