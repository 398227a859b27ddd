/- keysMatch (8). -/
import Derived.Test.Qxb6614485aGet
import Derived.Test.Qxb6614485aSet
import Derived.Deep.RegionHeld3
import Derived.Deep.DeepCutAuto
namespace Go.Proofs.Qxb6614485a
open Go.RowKit
theorem hidm {p : Prop} (h : p) : Hid p := h
abbrev kO (a b c d : Value) : Obj := .cells #[a, b, c, d] 35
abbrev mO (a b c d e : Value) : Obj := .cells #[a, b, c, d, e] 40
/-- the nine cells of the two parameters -/
def Nine (n : Nat) (a b c d a' b' c' d' e' : Value) (w : World) : Prop :=
  w.cell? ⟨n, 0, none⟩ = some a ∧ w.cell? ⟨n, 1, none⟩ = some b ∧ w.cell? ⟨n, 2, none⟩ = some c ∧ w.cell? ⟨n, 3, none⟩ = some d ∧
  w.cell? ⟨n + 1, 0, none⟩ = some a' ∧ w.cell? ⟨n + 1, 1, none⟩ = some b' ∧ w.cell? ⟨n + 1, 2, none⟩ = some c' ∧ w.cell? ⟨n + 1, 3, none⟩ = some d' ∧ w.cell? ⟨n + 1, 4, none⟩ = some e'
theorem nine {w w' : World} {a b c d a' b' c' d' e' : Value} (hb : Below (w.heap.size + 2) ((w.alloc (kO a b c d)).alloc (mO a' b' c' d' e')) w') : Nine w.heap.size a b c d a' b' c' d' e' w' := by
  have h0 : w'.heap[w.heap.size]? = some (.cells #[a, b, c, d] 35 (0, 0)) := by rw [hb.block _ (by omega)]; exact heap_alloc2_old _ _ _
  have h1 : w'.heap[w.heap.size + 1]? = some (.cells #[a', b', c', d', e'] 40 (0, 0)) := by rw [hb.block _ (by omega)]; exact heap_alloc2_new _ _ _
  refine ⟨?_, ?_, ?_, ?_, ?_, ?_, ?_, ?_, ?_⟩
  all_goals first
    | (rw [cell_of_row w' _ _ _ 35 (0, 0) h0]; rfl)
    | (rw [cell_of_row w' _ _ _ 40 (0, 0) h1]; rfl)
theorem up {w w' w'' : World} {o p : Obj} (hb : Below (w.heap.size + 2) ((w.alloc o).alloc p) w') (hc : Below w'.heap.size w' w'') : Below (w.heap.size + 2) ((w.alloc o).alloc p) w'' := by
  have := hb.size
  simp at this
  exact hb.trans (hc.mono (by omega))
theorem upd {w w' w'' : World} {o p : Obj} (hb : Below (w.heap.size + 2) ((w.alloc o).alloc p) w') (hc : Below w'.drew.heap.size w'.drew w'') : Below (w.heap.size + 2) ((w.alloc o).alloc p) w'' :=
  up hb ⟨hc.os, hc.tape, hc.output, hc.size, hc.block⟩
theorem low {w w' : World} {o p : Obj} (hb : Below (w.heap.size + 2) ((w.alloc o).alloc p) w') (q : Addr) (hq : q.block < w.heap.size) : w'.cell? q = w.cell? q := by
  refine World.cell?_of_block (w := w) ?_
  rw [hb.block _ (by omega), Below.heap_alloc _ _ _ (by simp; omega), Below.heap_alloc _ _ _ hq]
theorem low2 {w w' : World} {o p : Obj} (hb : Below (w.heap.size + 2) ((w.alloc o).alloc p) w') : Below w.heap.size w w' :=
  (below2 w o p).trans (hb.mono (by omega))
theorem nine1 {w w' : World} {a b c d a' b' c' d' e' u : Value} {g t : Nat} (hb : Below (w.heap.size + 2) ((w.alloc (kO a b c d)).alloc (mO a' b' c' d' e')) w') (hg : g < w.heap.size) (hc : w.cell? ⟨g, t, none⟩ = some u) :
    w'.cell? ⟨w.heap.size, 0, none⟩ = some a ∧ w'.cell? ⟨w.heap.size, 1, none⟩ = some b ∧ w'.cell? ⟨w.heap.size, 2, none⟩ = some c ∧ w'.cell? ⟨w.heap.size, 3, none⟩ = some d ∧
    w'.cell? ⟨w.heap.size + 1, 0, none⟩ = some a' ∧ w'.cell? ⟨w.heap.size + 1, 1, none⟩ = some b' ∧ w'.cell? ⟨w.heap.size + 1, 2, none⟩ = some c' ∧ w'.cell? ⟨w.heap.size + 1, 3, none⟩ = some d' ∧ w'.cell? ⟨w.heap.size + 1, 4, none⟩ = some e' ∧ w'.cell? ⟨g, t, none⟩ = some u := by
  obtain ⟨k0, k1, k2, k3, m0, m1, m2, m3, m4⟩ := nine hb
  exact ⟨k0, k1, k2, k3, m0, m1, m2, m3, m4, (low hb ⟨g, t, none⟩ hg).trans hc⟩
set_option maxHeartbeats 4000000 in
set_option maxRecDepth 100000 in
theorem match_any (w : World) (n r d kr cf cf' cv cv' cr cr' cd : Nat) (af af' av av' ar ar' ad : Option Addr) (vz : Value) (fs vs rs : Nat → Int) (hn : n ≤ 100000) (hr : r ≤ 100000)
    (hF : ∀ i, i < n → ∃ g g', af = some ⟨g, 0, none⟩ ∧ af' = some ⟨g', 0, none⟩ ∧ g < w.heap.size ∧ g' < w.heap.size ∧ w.cell? ⟨g, i, none⟩ = some (.int .i64 (fs i)) ∧ w.cell? ⟨g', i, none⟩ = some (.int .i64 (fs i)))
    (hV : ∀ i, i < n → ∃ g g', av = some ⟨g, 0, none⟩ ∧ av' = some ⟨g', 0, none⟩ ∧ g < w.heap.size ∧ g' < w.heap.size ∧ w.cell? ⟨g, i * 4, none⟩ = some (fieldV false (vs i)) ∧ w.cell? ⟨g', i, none⟩ = some (.int .i64 (vs i)))
    (hR : ∀ i, i < r → ∃ g g', ar = some ⟨g, 0, none⟩ ∧ ar' = some ⟨g', 0, none⟩ ∧ g < w.heap.size ∧ g' < w.heap.size ∧ w.cell? ⟨g, i * 2 + 1, none⟩ = some (.int .i64 (rs i)) ∧ w.cell? ⟨g', i, none⟩ = some (.int .i64 (rs i)))
    (hd : (ad = none ∧ d = 0 ∧ cd = 0 ∧ kr = 0 ∧ ∀ w', Below w.heap.size w w' → Calls Try.prog 22 #[vz, .slice none 0 0] w' fun e w'' => e = .returned (.bool true) ∧ Below w'.heap.size w' w'') ∨
      (∃ g, ad = some ⟨g, 0, none⟩ ∧ d ≤ cd ∧ kr ≤ d ∧ cd ≤ maxLen ∧ ∀ w', Below w.heap.size w w' → Calls Try.prog 22 #[vz, .slice (some ⟨g, 0, none⟩) kr cd] w' fun e w'' => e = .returned (.bool true) ∧ Below w'.heap.size w' w'')) :
    Calls Try.prog 8 #[.agg #[.slice af n cf, .slice av n cv, .slice ar r cr, vz], .agg #[.slice af' n cf', .slice av' n cv', .slice ar' r cr', .slice ad d cd, .int .i64 kr]] w fun e w' => e = .returned (.bool true) ∧ Below w.heap.size w w' := by
  have B0 := hidm (Below.refl (w.heap.size + 2) ((w.alloc (kO (.slice af n cf) (.slice av n cv) (.slice ar r cr) vz)).alloc (mO (.slice af' n cf') (.slice av' n cv') (.slice ar' r cr') (.slice ad d cd) (.int .i64 kr))))
  have HF := hidm hF
  have HV := hidm hV
  have HR := hidm hR
  have HD := hidm hd
  clear hF hV hR hd
  go_enter Try.func8, Try.ntmps8
  go_wp2_with fail
  go_region_held3 (fun w' => w'.cell? ⟨w.heap.size, 0, none⟩ = some (.slice af n cf) ∧ w'.cell? ⟨w.heap.size, 1, none⟩ = some (.slice av n cv) ∧ w'.cell? ⟨w.heap.size, 2, none⟩ = some (.slice ar r cr) ∧ w'.cell? ⟨w.heap.size, 3, none⟩ = some vz ∧
      w'.cell? ⟨w.heap.size + 1, 0, none⟩ = some (.slice af' n cf') ∧ w'.cell? ⟨w.heap.size + 1, 1, none⟩ = some (.slice av' n cv') ∧ w'.cell? ⟨w.heap.size + 1, 2, none⟩ = some (.slice ar' r cr') ∧ w'.cell? ⟨w.heap.size + 1, 3, none⟩ = some (.slice ad d cd) ∧ w'.cell? ⟨w.heap.size + 1, 4, none⟩ = some (.int .i64 kr))
    (first
      | exact nine B3.out
      | exact nine B2.out
      | exact nine B1.out
      | exact nine B0.out.drew
      | go_keep)
    (first
      | (go_at_call 18; refine (cntR _ _ _ _ _ _ _).mono ?_; rintro e w3 ⟨rfl, hb3⟩; have B3 := hidm (up B2.out hb3); clear hb3)
      | (go_at_call 17; refine (cntV _ _ _ _ _ _ _).mono ?_; rintro e w2 ⟨rfl, hb2⟩; have B2 := hidm (up B1.out hb2); clear hb2)
      | (go_at_call 16; refine (cntF _ _ _ _ _ _ _).mono ?_; rintro e w1 ⟨rfl, hb1⟩; have B1 := hidm (upd B0.out hb1); clear hb1))
  go_wp2_with fail
  go_loopw [5] (fun i wr => ∃ t : Nat, t ≤ n ∧ i = .int .i64 t ∧ Below (w.heap.size + 2) ((w.alloc (kO (.slice af n cf) (.slice av n cv) (.slice ar r cr) vz)).alloc (mO (.slice af' n cf') (.slice av' n cv') (.slice ar' r cr') (.slice ad d cd) (.int .i64 kr))) wr) (fun i _ => n - (intOf i).toNat)
  case atStart => exact ⟨0, Nat.zero_le _, rfl, B3.out⟩
  case round =>
    obtain ⟨t, ht, rfl, hb⟩ := hrel
    have C0 := hidm hb
    clear B0 B1 B2 B3 hb
    obtain ⟨k0, k1, k2, k3, m0, m1, m2, m3, m4⟩ := nine C0.out
    by_cases htn : t < n
    · obtain ⟨g, g', rfl, rfl, hg, hg', hc, hc'⟩ := HF.out t htn
      have d' := (low C0.out ⟨g', t, none⟩ hg').trans hc'
      go_wp2_with fail
      go_region_held3 (fun w' => w'.cell? ⟨w.heap.size, 0, none⟩ = some (.slice (some ⟨g, 0, none⟩) n cf) ∧ w'.cell? ⟨w.heap.size, 1, none⟩ = some (.slice av n cv) ∧ w'.cell? ⟨w.heap.size, 2, none⟩ = some (.slice ar r cr) ∧ w'.cell? ⟨w.heap.size, 3, none⟩ = some vz ∧
      w'.cell? ⟨w.heap.size + 1, 0, none⟩ = some (.slice (some ⟨g', 0, none⟩) n cf') ∧ w'.cell? ⟨w.heap.size + 1, 1, none⟩ = some (.slice av' n cv') ∧ w'.cell? ⟨w.heap.size + 1, 2, none⟩ = some (.slice ar' r cr') ∧ w'.cell? ⟨w.heap.size + 1, 3, none⟩ = some (.slice ad d cd) ∧ w'.cell? ⟨w.heap.size + 1, 4, none⟩ = some (.int .i64 kr) ∧ w'.cell? ⟨g', t, none⟩ = some (.int .i64 (fs t)))
        (first
          | exact nine1 C1.out hg' hc'
          | exact nine1 C0.out.drew hg' hc'
          | go_keep)
        (first
          | (go_at_call 19; refine (getF _ g n cf t (fs t) _ _ _ ((low C0.out.drew ⟨g, t, none⟩ hg).trans hc) htn (Nat.lt_of_lt_of_le hg (low2 C0.out.drew).size)).mono ?_; rintro e w1 ⟨rfl, hb1⟩; have C1 := hidm (upd C0.out hb1); clear hb1))
      obtain ⟨g2, g2', rfl, rfl, hg2, hg2', hc2, hc2'⟩ := HV.out t htn
      clear k0 k1 k2 k3 m0 m1 m2 m3 m4 d'
      obtain ⟨k0, k1, k2, k3, m0, m1, m2, m3, m4⟩ := nine C1.out
      go_wp2_with (first
        | (go_at_call 20; refine (getV _ g2 n cv t (vs t) _ _ _ ((low C1.out ⟨g2, t * 4, none⟩ hg2).trans hc2) htn (Nat.lt_of_lt_of_le hg2 (low2 C1.out).size)).mono ?_; rintro e w2 ⟨rfl, hb2⟩; have C2 := hidm (up C1.out hb2); clear hb2 k0 k1 k2 k3 m0 m1 m2 m3 m4; obtain ⟨k0, k1, k2, k3, m0, m1, m2, m3, m4⟩ := nine C2.out; have d2 := (low C2.out ⟨g2', t, none⟩ hg2').trans hc2'))
      go_roundw
      case rel => exact ⟨t + 1, by omega, by go_num, C2.out⟩
      case measure => simp [intOf]; omega
    · obtain rfl : t = n := by omega
      go_wp2_with fail
      go_loopw [9] (fun i wr => ∃ q : Nat, q ≤ r ∧ i = .int .i64 q ∧ Below (w.heap.size + 2) ((w.alloc (kO (.slice af t cf) (.slice av t cv) (.slice ar r cr) vz)).alloc (mO (.slice af' t cf') (.slice av' t cv') (.slice ar' r cr') (.slice ad d cd) (.int .i64 kr))) wr) (fun i _ => r - (intOf i).toNat)
      case atStart => exact ⟨0, Nat.zero_le _, rfl, C0.out⟩
      case round =>
        obtain ⟨q, hq, rfl, hb⟩ := hrel
        have C1 := hidm hb
        clear k0 k1 k2 k3 m0 m1 m2 m3 m4 hb C0
        obtain ⟨k0, k1, k2, k3, m0, m1, m2, m3, m4⟩ := nine C1.out
        by_cases hqr : q < r
        · obtain ⟨g, g', rfl, rfl, hg, hg', hc, hc'⟩ := HR.out q hqr
          have d' := (low C1.out ⟨g', q, none⟩ hg').trans hc'
          go_wp2_with fail
          go_region_held3 (fun w' => w'.cell? ⟨w.heap.size, 0, none⟩ = some (.slice af t cf) ∧ w'.cell? ⟨w.heap.size, 1, none⟩ = some (.slice av t cv) ∧ w'.cell? ⟨w.heap.size, 2, none⟩ = some (.slice (some ⟨g, 0, none⟩) r cr) ∧ w'.cell? ⟨w.heap.size, 3, none⟩ = some vz ∧
      w'.cell? ⟨w.heap.size + 1, 0, none⟩ = some (.slice af' t cf') ∧ w'.cell? ⟨w.heap.size + 1, 1, none⟩ = some (.slice av' t cv') ∧ w'.cell? ⟨w.heap.size + 1, 2, none⟩ = some (.slice (some ⟨g', 0, none⟩) r cr') ∧ w'.cell? ⟨w.heap.size + 1, 3, none⟩ = some (.slice ad d cd) ∧ w'.cell? ⟨w.heap.size + 1, 4, none⟩ = some (.int .i64 kr) ∧ w'.cell? ⟨g', q, none⟩ = some (.int .i64 (rs q)))
            (first
              | exact nine1 C2.out hg' hc'
              | exact nine1 C1.out.drew hg' hc'
              | go_keep)
            (first
              | (go_at_call 21; refine (getR _ g r cr q (rs q) _ _ _ ((low C1.out.drew ⟨g, q * 2 + 1, none⟩ hg).trans hc) hqr (Nat.lt_of_lt_of_le hg (low2 C1.out.drew).size)).mono ?_; rintro e w2 ⟨rfl, hb2⟩; have C2 := hidm (upd C1.out hb2); clear hb2))
          go_wp2_with fail
          go_roundw
          case rel => exact ⟨q + 1, by omega, by go_num, C2.out⟩
          case measure => simp [intOf]; omega
        · obtain rfl : q = r := by omega
          rcases HD.out with ⟨rfl, rfl, rfl, rfl, hset⟩ | ⟨g, rfl, hd1, hd2, hd3, hset⟩
          · have HSET := hidm hset
            clear hset
            go_wp2_with fail
            go_region_held3 (fun w' => w'.cell? ⟨w.heap.size, 0, none⟩ = some (.slice af t cf) ∧ w'.cell? ⟨w.heap.size, 1, none⟩ = some (.slice av t cv) ∧ w'.cell? ⟨w.heap.size, 2, none⟩ = some (.slice ar q cr) ∧ w'.cell? ⟨w.heap.size, 3, none⟩ = some vz ∧
      w'.cell? ⟨w.heap.size + 1, 0, none⟩ = some (.slice af' t cf') ∧ w'.cell? ⟨w.heap.size + 1, 1, none⟩ = some (.slice av' t cv') ∧ w'.cell? ⟨w.heap.size + 1, 2, none⟩ = some (.slice ar' q cr') ∧ w'.cell? ⟨w.heap.size + 1, 3, none⟩ = some (.slice none 0 0) ∧ w'.cell? ⟨w.heap.size + 1, 4, none⟩ = some (.int .i64 0))
              (first
                | exact nine C4.out
                | exact nine C3.out
                | exact nine C1.out.drew
                | go_keep)
              (first
                | (go_at_call 22; refine (HSET.out _ (low2 C3.out)).mono ?_; rintro e w4 ⟨rfl, hb4⟩; have C4 := hidm (up C3.out hb4); clear hb4)
                | (go_at_call 23; refine (getZ _ _ _ _ _).mono ?_; rintro e w3 ⟨rfl, hb3⟩; have C3 := hidm (upd C1.out hb3); clear hb3))
            go_wp2_with fail
            go_ret
            exact ⟨rfl, low2 C4.out⟩
          · have HSET := hidm hset
            clear hset
            have s1 : (0 : Int) ≤ (kr : Int) := by omega
            have s2 : (kr : Int) ≤ (cd : Int) := by omega
            go_wp2_with fail
            go_region_held3 (fun w' => w'.cell? ⟨w.heap.size, 0, none⟩ = some (.slice af t cf) ∧ w'.cell? ⟨w.heap.size, 1, none⟩ = some (.slice av t cv) ∧ w'.cell? ⟨w.heap.size, 2, none⟩ = some (.slice ar q cr) ∧ w'.cell? ⟨w.heap.size, 3, none⟩ = some vz ∧
      w'.cell? ⟨w.heap.size + 1, 0, none⟩ = some (.slice af' t cf') ∧ w'.cell? ⟨w.heap.size + 1, 1, none⟩ = some (.slice av' t cv') ∧ w'.cell? ⟨w.heap.size + 1, 2, none⟩ = some (.slice ar' q cr') ∧ w'.cell? ⟨w.heap.size + 1, 3, none⟩ = some (.slice (some ⟨g, 0, none⟩) d cd) ∧ w'.cell? ⟨w.heap.size + 1, 4, none⟩ = some (.int .i64 kr))
              (first
                | exact nine C4.out
                | exact nine C3.out
                | exact nine C1.out.drew
                | go_keep)
              (first
                | (go_at_call 22; refine (HSET.out _ (low2 C3.out)).mono ?_; rintro e w4 ⟨rfl, hb4⟩; have C4 := hidm (up C3.out hb4); clear hb4)
                | (go_at_call 23; refine (getZ _ _ _ _ _).mono ?_; rintro e w3 ⟨rfl, hb3⟩; have C3 := hidm (upd C1.out hb3); clear hb3))
            go_wp2_with fail
            go_ret
            exact ⟨rfl, low2 C4.out⟩
end Go.Proofs.Qxb6614485a
