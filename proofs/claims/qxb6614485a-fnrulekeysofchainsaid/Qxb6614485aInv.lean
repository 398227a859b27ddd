/- ruleKeysOf (15): the plain fold; what the loop knows of memory. -/
import Derived.Test.Qxb6614485aKind4
import Derived.Test.Qxb6614485aKey
import Derived.Test.Qxb6614485aApp
namespace Go.Proofs.Qxb6614485a
open Go.RowKit
/-- what has been gathered of a chain -/
structure KS where
  fs : List Int
  vs : List Int
  rs : List Int
  rd : List Int
  kr : Nat
def KS.read (s : KS) (b : Int) : KS := { s with rd := s.rd ++ [b] }
def KS.eq (s : KS) (a b : Int) : KS := { s with fs := s.fs ++ [a], vs := s.vs ++ [b] }
def KS.role (s : KS) (a : Int) : KS := { s with rs := s.rs ++ [a] }
def KS.mark (s : KS) : KS := { s with kr := s.rd.length }
def KS.step (s : KS) (c : Int × Int × Int) : KS :=
  if c.1 = 0 ∨ c.1 = 1 then ((s.read c.2.2).eq c.2.1 c.2.2).mark else if c.1 = 2 then ((s.read c.2.2).role c.2.1).mark else s.read c.2.2
def runK (s : KS) : List (Int × Int × Int) → KS
  | [] => s
  | c :: r => if c.1 = 4 then s else runK (s.step c) r
def KS.init : KS := ⟨[], [], [], [], 0⟩
def opnds (l : List Int) : List Value := l.flatMap fun b => (opnd (fieldV false b)).toList
theorem opnds_snoc (l : List Int) (b : Int) : opnds (l ++ [b]) = opnds l ++ (opnd (fieldV false b)).toList := by simp [opnds]
theorem opnds_len (l : List Int) : (opnds l).length = l.length * 4 := by
  induction l with
  | nil => rfl
  | cons b l ih => simp only [opnds, List.flatMap_cons, List.length_append, List.length_cons] at ih ⊢; rw [ih]; simp; omega
theorem ints_snoc (l : List Int) (b : Int) : ints (l ++ [b]) = ints l ++ [.int .i64 b] := by simp [ints]
structure KInv (w0 wr : World) (K R : Nat) (vf vv vr vs v : Value) (cr : List Value) (s : KS) : Prop where
  blk : wr.heap[K]? = some (.cells #[vf, vv, vr, vs] 35 (0, 0))
  rd : Rd wr R w0.heap.size v s.rd
  of : wr.ownsRow w0.heap.size 3 1 vf s.fs.length (ints s.fs)
  ov : wr.ownsRow w0.heap.size 30 4 vv s.vs.length (opnds s.vs)
  or : wr.ownsRow w0.heap.size 73 2 vr s.rs.length cr
  rl : ∀ i, i < s.rs.length → cr[2 * i + 1]? = some (.int .i64 (s.rs.getD i 0))
  os : wr.ownsRow w0.heap.size 3 1 vs s.kr (ints (s.rd.take s.kr))
  apf : Apart vf v
  aps : Apart vs vf
  kr : s.kr ≤ s.rd.length
  nil : (vs = .slice none 0 0 ∧ s.kr = 0) ∨ 0 < s.kr
  kept : Kept w0 wr (fun j => j = K ∨ j = R)
  ne : K ≠ R
  kl : K < w0.heap.size
section
variable {w0 wr w1 : World} {K R : Nat} {vf vv vr vs v v' : Value} {cr : List Value} {s : KS}
theorem KInv.kept1 (h : KInv w0 wr K R vf vv vr vs v cr s) (hk : Kept wr w1 (fun _ => False)) : KInv w0 w1 K R vf vv vr vs v cr s :=
  ⟨by rw [hk.block K (lt_of_block h.blk) (by simp)]; exact h.blk, h.rd.kept hk, hk.owns h.of (fun _ h => h.elim), hk.owns h.ov (fun _ h => h.elim), hk.owns h.or (fun _ h => h.elim), h.rl, hk.owns h.os (fun _ h => h.elim),
    h.apf, h.aps, h.kr, h.nil, h.kept.trans hk (fun _ _ h => h.elim), h.ne, h.kl⟩
theorem KInv.below (h : KInv w0 wr K R vf vv vr vs v cr s) (hb : Below wr.heap.size wr w1) : KInv w0 w1 K R vf vv vr vs v cr s :=
  h.kept1 (Kept.ofBelow hb _ (fun j h1 h2 => by omega))
theorem KInv.notK (h : KInv w0 wr K R vf vv vr vs v cr s) {e : TypeId} {size n : Nat} {u : Value} {xs : List Value} (ho : wr.ownsRow w0.heap.size e size u n xs) : some K ≠ u.ownBlock ∧ some R ≠ u.ownBlock := by
  have h1 := h.kl
  have h2 := h.rd.lo
  refine ⟨fun e => ?_, fun e => ?_⟩
  · have := ho.lt K e.symm; omega
  · have := ho.lt R e.symm; omega
/-- behind kindForStrings -/
theorem KInv.read (h : KInv w0 wr K R vf vv vr vs v cr s) {b : Int} (hr : Rd w1 R w0.heap.size v' (s.rd ++ [b])) (hs : Step (· = R) wr w1 v v' s.rd.length) : KInv w0 w1 K R vf vv vr vs v' cr (s.read b) := by
  have hS : ∀ j, j = R → j < w0.heap.size := fun j hj => by rw [hj]; exact h.rd.lo
  have hK := h.notK h.rd.own
  have hz := h.kept.size
  refine ⟨?_, hr, hs.keep h.of hS (.inl h.apf), hs.keep h.ov hS (.inl (apart_types h.ov h.rd.own (by decide))), hs.keep h.or hS (.inl (apart_types h.or h.rd.own (by decide))), h.rl, ?_,
    hs.apart h.of h.apf, h.aps, ?_, h.nil, h.kept.trans hs.kept ?_, h.ne, h.kl⟩
  · rw [hs.kept.block K (lt_of_block h.blk) (fun hx => hx.elim h.ne hK.1)]; exact h.blk
  · have := hs.keep h.os hS (.inr (by rw [Nat.mul_one]; exact h.kr))
    simpa [KS.read, List.take_append_of_le_length h.kr] using this
  · have := h.kr
    simp [KS.read]
    omega
  · rintro j hj (hx | hx)
    · exact .inr hx
    · have := h.rd.own.lt j hx.symm
      omega
/-- a store into a field of k -/
theorem set_blk {w : World} {K : Nat} {cs : Array Value} {i : Nat} {u : Value} (h : w.heap[K]? = some (.cells cs 35 (0, 0))) : (w.setCell ⟨K, i, none⟩ u).heap[K]? = some (.cells (cs.setIfInBounds i u) 35 (0, 0)) :=
  heap_setCell_same w K i cs 35 u h
theorem KInv.mark (h : KInv w0 wr K R vf vv vr vs v cr s) (hp : 0 < s.rd.length) : KInv w0 (wr.setCell ⟨K, 3, none⟩ v) K R vf vv vr v v cr s.mark := by
  have hk : Kept wr (wr.setCell ⟨K, 3, none⟩ v) (· = K) := (Kept.refl _ _).setCell _ _ rfl
  have hS : ∀ j, j = K → j < w0.heap.size := fun j hj => by rw [hj]; exact h.kl
  refine ⟨by simpa using set_blk (i := 3) (u := v) h.blk, ⟨?_, hk.owns h.rd.own hS, h.rd.lo, by simpa using h.rd.hi⟩, hk.owns h.of hS, hk.owns h.ov hS, hk.owns h.or hS, h.rl, ?_, h.apf, h.apf.symm, Nat.le_refl _, .inr hp, h.kept.trans hk (fun j _ h => .inl h), h.ne, h.kl⟩
  · rw [hk.block R (lt_of_block h.rd.blk) (fun e => h.ne e.symm)]; exact h.rd.blk
  · simpa [KS.mark] using hk.owns h.rd.own hS
/-- behind an append to a row apart from all others, and the store into field i of k: what stays -/
theorem KInv.other (h : KInv w0 wr K R vf vv vr vs v cr s) {u u' : Value} {i N n : Nat} {e : TypeId} {size : Nat} {xs : List Value} (hu : wr.ownsRow w0.heap.size e size u n xs) (hs : Step (fun _ => False) wr w1 u u' N) :
    (∀ {e size m y ys}, wr.ownsRow w0.heap.size e size y m ys → Apart y u → (w1.setCell ⟨K, i, none⟩ u').ownsRow w0.heap.size e size y m ys) ∧
    (∀ {e size m ys}, w1.ownsRow w0.heap.size e size u' m ys → (w1.setCell ⟨K, i, none⟩ u').ownsRow w0.heap.size e size u' m ys) ∧
    (w1.setCell ⟨K, i, none⟩ u').heap[K]? = some (.cells (#[vf, vv, vr, vs].setIfInBounds i u') 35 (0, 0)) ∧
    (w1.setCell ⟨K, i, none⟩ u').heap[R]? = wr.heap[R]? ∧ wr.heap.size ≤ (w1.setCell ⟨K, i, none⟩ u').heap.size ∧
    Kept w0 (w1.setCell ⟨K, i, none⟩ u') (fun j => j = K ∨ j = R) := by
  have hK := h.notK hu
  have hk : Kept w1 (w1.setCell ⟨K, i, none⟩ u') (· = K) := (Kept.refl _ _).setCell _ _ rfl
  have hS : ∀ j, j = K → j < w0.heap.size := fun j hj => by rw [hj]; exact h.kl
  have hbK : w1.heap[K]? = some (.cells #[vf, vv, vr, vs] 35 (0, 0)) := by rw [hs.kept.block K (lt_of_block h.blk) (fun hx => hx.elim id hK.1)]; exact h.blk
  have hz := h.kept.size
  refine ⟨fun hy ha => hk.owns (hs.keep hy (fun _ h => h.elim) (.inl ha)) hS, fun hy => hk.owns hy hS, set_blk hbK, ?_, Nat.le_trans hs.kept.size hk.size, ?_⟩
  · rw [hk.block R (Nat.lt_of_lt_of_le (lt_of_block h.rd.blk) hs.kept.size) (fun e => h.ne e.symm), hs.kept.block R (lt_of_block h.rd.blk) (fun hx => hx.elim id hK.2)]
  · refine (h.kept.trans hs.kept ?_).trans hk (fun j _ h => .inl h)
    rintro j hj (hx | hx)
    · exact hx.elim
    · have := hu.lt j hx.symm
      omega
theorem KInv.addF (h : KInv w0 wr K R vf vv vr vs v cr s) {a : Int} {u' : Value} (ho : w1.ownsRow w0.heap.size 3 1 u' (s.fs.length + 1) (ints s.fs ++ [.int .i64 a])) (hs : Step (fun _ => False) wr w1 vf u' s.fs.length) :
    KInv w0 (w1.setCell ⟨K, 0, none⟩ u') K R u' vv vr vs v cr { s with fs := s.fs ++ [a] } := by
  obtain ⟨k1, k2, k3, k4, k5, k6⟩ := h.other (i := 0) h.of hs
  refine ⟨by simpa using k3, ⟨by rw [k4]; exact h.rd.blk, k1 h.rd.own h.apf.symm, h.rd.lo, Nat.le_trans h.rd.hi k5⟩, ?_, k1 h.ov (apart_types h.ov h.of (by decide)), k1 h.or (apart_types h.or h.of (by decide)), h.rl, k1 h.os h.aps,
    (hs.apart h.rd.own h.apf.symm).symm, hs.apart h.os h.aps, h.kr, h.nil, k6, h.ne, h.kl⟩
  simpa [ints] using k2 ho
theorem KInv.addV (h : KInv w0 wr K R vf vv vr vs v cr s) {b : Int} {u' : Value} {N : Nat} (ho : w1.ownsRow w0.heap.size 30 4 u' (s.vs.length + 1) (opnds s.vs ++ (opnd (fieldV false b)).toList)) (hs : Step (fun _ => False) wr w1 vv u' N) :
    KInv w0 (w1.setCell ⟨K, 1, none⟩ u') K R vf u' vr vs v cr { s with vs := s.vs ++ [b] } := by
  obtain ⟨k1, k2, k3, k4, k5, k6⟩ := h.other (i := 1) h.ov hs
  refine ⟨by simpa using k3, ⟨by rw [k4]; exact h.rd.blk, k1 h.rd.own (apart_types h.rd.own h.ov (by decide)), h.rd.lo, Nat.le_trans h.rd.hi k5⟩, k1 h.of (apart_types h.of h.ov (by decide)), ?_, k1 h.or (apart_types h.or h.ov (by decide)), h.rl, k1 h.os (apart_types h.os h.ov (by decide)),
    h.apf, h.aps, h.kr, h.nil, k6, h.ne, h.kl⟩
  simpa [opnds_snoc] using k2 ho
theorem KInv.addR (h : KInv w0 wr K R vf vv vr vs v cr s) {a : Int} {q u' : Value} {N : Nat} (ho : w1.ownsRow w0.heap.size 73 2 u' (s.rs.length + 1) (cr ++ [q, .int .i64 a])) (hs : Step (fun _ => False) wr w1 vr u' N) :
    KInv w0 (w1.setCell ⟨K, 2, none⟩ u') K R vf vv u' vs v (cr ++ [q, .int .i64 a]) { s with rs := s.rs ++ [a] } := by
  obtain ⟨k1, k2, k3, k4, k5, k6⟩ := h.other (i := 2) h.or hs
  have hl : cr.length = s.rs.length * 2 := h.or.1
  refine ⟨by simpa using k3, ⟨by rw [k4]; exact h.rd.blk, k1 h.rd.own (apart_types h.rd.own h.or (by decide)), h.rd.lo, Nat.le_trans h.rd.hi k5⟩, k1 h.of (apart_types h.of h.or (by decide)), k1 h.ov (apart_types h.ov h.or (by decide)), ?_, ?_, k1 h.os (apart_types h.os h.or (by decide)),
    h.apf, h.aps, h.kr, h.nil, k6, h.ne, h.kl⟩
  · simpa using k2 ho
  · intro i hi
    simp only [List.length_append, List.length_cons, List.length_nil] at hi
    by_cases hi2 : i < s.rs.length
    · rw [List.getElem?_append_left (by omega), h.rl i hi2]
      simp [List.getD, List.getElem?_append_left hi2, hi2]
    · obtain rfl : i = s.rs.length := by omega
      rw [List.getElem?_append_right (by omega)]
      simp [hl, List.getD, show 2 * s.rs.length + 1 - s.rs.length * 2 = 1 by omega]
end
end Go.Proofs.Qxb6614485a
