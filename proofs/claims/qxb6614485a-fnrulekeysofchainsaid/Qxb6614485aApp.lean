/- appendConjuncts (24). -/
import Derived.Test.Qxb6614485aConj
import Derived.Test.Qxb6614485aOwn
import Derived.Test.Qxb6614485aAsk
import Derived.OneCell
import Derived.Deep.AppendLies
namespace Go.Proofs.Qxb6614485a
open Go.RowKit
theorem Try.info37 : (Try.prog.info? 37).map (fun i => (i.zero, i.size, i.bytes)) = some (some (.pointer none), 1, 8) := by kernel_rfl
theorem hid' {p : Prop} (h : p) : Hid p := h
theorem Step.one {S : Nat → Prop} {w w' : World} {v v' : Value} {n : Nat} (h : Step S w w' v v' (n * 1)) : Step S w w' v v' n := by simpa using h
theorem not_all {w : World} {B : Nat} {t a b : Int} {x : Value} (h : IsConj w B t a b x) : ∀ w, (Instr.typeAssert x 27 43 true).run Try.prog w = .ok (.tuple #[.slice none 0 0, .bool false]) w := by
  rcases h with ⟨_, k, _, rfl, _⟩ | ⟨_, k, _, rfl, _⟩ | ⟨_, k, _, rfl, _⟩ | ⟨_, k, u, _, rfl, _⟩ | ⟨_, k, _, rfl, _⟩
  · exact as_50_43 _
  · exact as_50_43 _
  · exact as_56_43 _
  · exact as_59_43 _
  · exact as_62_43 _
set_option maxHeartbeats 1000000 in
theorem app_one (w : World) (p q n base : Nat) (x v : Value) (xs : List Value) (hc : w.cell? ⟨p, q, none⟩ = some x) (hx : ∀ w, (Instr.typeAssert x 27 43 true).run Try.prog w = .ok (.tuple #[.slice none 0 0, .bool false]) w)
    (hown : w.ownsRow base 37 1 v n xs) (hbase : base ≤ w.heap.size) (hn : n ≤ 1000000) :
    Calls Try.prog 24 #[v, .pointer (some ⟨p, q, none⟩)] w fun e w' => ∃ v', e = .returned v' ∧ w'.ownsRow base 37 1 v' (n + 1) (xs ++ [.pointer (some ⟨p, q, none⟩)]) ∧ Step (fun _ => False) w w' v v' n := by
  obtain ⟨i0, hi0, hz0, hz1, hz2⟩ := info_parts Try.info37
  have HO : Hid (w.ownsRow base 37 1 v n xs) := hown
  clear hown
  go_enter Try.func24, Try.ntmps24
  go_wp2_with (first
    | (at_builtin; refine wpList_append_step _ rfl _ _ 66 rfl base 37 i0 _ 1 8 Try.underlying66 hi0 hz0 hz1 hz2 rfl (by decide) v n xs rfl (HO.out.alloc _) ⟨w.heap.size, 0, none⟩ 1 1 [.pointer (some ⟨p, q, none⟩)] rfl rfl
        (World.news_of_block (cs := #[.pointer (some ⟨p, q, none⟩)]) (t := 37) (fr := (0, 0)) (heap_alloc_new w _)) (by simp [Value.oneCell']) (by simp [maxLen]; omega) (by omega) (by simp; omega) ?_; intro v' w1 hown1 hst))
  go_ret
  exact ⟨v', rfl, hown1, (Step.refl _ v n ((Kept.refl w _).alloc _)).trans hst.one (Nat.le_refl _)⟩
/-- the parts' addresses -/
def ptrs (g n : Nat) : List Value := (List.range n).map fun i => .pointer (some ⟨g, i * 4, none⟩)
theorem ptrs_succ (g n : Nat) : ptrs g (n + 1) = ptrs g n ++ [.pointer (some ⟨g, n * 4, none⟩)] := by simp [ptrs, List.range_succ]
theorem ptrs_len (g n : Nat) : (ptrs g n).length = n := by simp [ptrs]
set_option maxHeartbeats 1000000 in
theorem app_all (w : World) (p q g n : Nat) (xf : Nat → Value) (hc : w.cell? ⟨p, q, none⟩ = some (.iface 43 (.slice (some ⟨g, 0, none⟩) n n))) (hg : g < w.heap.size)
    (hxc : ∀ i, i < n → w.cell? ⟨g, i * 4, none⟩ = some (xf i)) (hxt : ∀ i, i < n → ∀ w, (Instr.typeAssert (xf i) 27 43 true).run Try.prog w = .ok (.tuple #[.slice none 0 0, .bool false]) w) (hn : n ≤ 100000) :
    Calls Try.prog 24 #[.slice none 0 0, .pointer (some ⟨p, q, none⟩)] w fun e w' => ∃ v', e = .returned v' ∧ w'.ownsRow w.heap.size 37 1 v' n (ptrs g n) ∧ Below w.heap.size w w' := by
  have HC : Hid (∀ i, i < n → w.cell? ⟨g, i * 4, none⟩ = some (xf i)) := hxc
  have HT : Hid (∀ i, i < n → ∀ w, (Instr.typeAssert (xf i) 27 43 true).run Try.prog w = .ok (.tuple #[.slice none 0 0, .bool false]) w) := hxt
  have ha := as_43_43
  clear hxc hxt
  go_enter Try.func24, Try.ntmps24
  go_wp2_with fail
  go_loopw [0, 24] (fun v i wr => ∃ k : Nat, k ≤ n ∧ i = .int .i64 k ∧ wr.ownsRow w.heap.size 37 1 v k (ptrs g k) ∧ Below w.heap.size w wr) (fun _ i _ => n - (intOf i).toNat)
  case atStart => exact ⟨0, Nat.zero_le _, rfl, World.ownsRow_nil _ _ _ _, Below.refl _ _⟩
  case round =>
    obtain ⟨k, hk, rfl, hown, hb⟩ := hrel
    have HO := hid' hown
    have HB := hid' hb
    have hsz := hb.size
    clear hown hb
    by_cases hkn : k < n
    · go_wp2_with (first
        | (go_at_call 24; refine (app_one wr g (k * 4) k w.heap.size (xf k) u0 (ptrs g k) ((HB.out.cell (p := ⟨g, k * 4, none⟩) hg).trans (HC.out k hkn)) (HT.out k hkn) HO.out hsz (by omega)).mono ?_; rintro e w1 ⟨v', rfl, hown1, hst⟩; have HO1 := hid' hown1; have HS := hid' hst; clear hown1 hst))
      go_roundw
      case rel =>
        refine ⟨k + 1, by omega, by go_num, by rw [ptrs_succ]; exact HO1.out, HB.out.trans ?_⟩
        refine HS.out.kept.below (by omega) (fun j hj hs => ?_)
        rcases hs with hs | hs
        · exact hs
        · have := HO.out.lt j hs.symm
          omega
      case measure => simp [intOf]; omega
    · obtain rfl : k = n := by omega
      go_wp2_with fail
      go_ret
      exact ⟨u0, rfl, HO.out, HB.out⟩
end Go.Proofs.Qxb6614485a
