/- append onto a row of one's own, said so that other slices over the same row and other rows keep what they hold. -/
import Derived.WalkKit
import Derived.ArgAppend
namespace Go.Proofs.Qxb6614485a
open Go.RowKit
/-- w' is w with new blocks, and with writes to the blocks of S alone -/
structure Kept (w w' : World) (S : Nat → Prop) : Prop where
  os : w'.os = w.os
  tape : w'.tape = w.tape
  output : w'.output = w.output
  size : w.heap.size ≤ w'.heap.size
  block : ∀ k, k < w.heap.size → ¬ S k → w'.heap[k]? = w.heap[k]?
theorem Kept.refl (w : World) (S : Nat → Prop) : Kept w w S := ⟨rfl, rfl, rfl, Nat.le_refl _, fun _ _ _ => rfl⟩
theorem Kept.trans {a b c : World} {S T : Nat → Prop} (h : Kept a b S) (k : Kept b c T) (hT : ∀ j, j < a.heap.size → T j → S j) : Kept a c S :=
  ⟨k.os.trans h.os, k.tape.trans h.tape, k.output.trans h.output, Nat.le_trans h.size k.size,
    fun j hj hs => (k.block j (Nat.lt_of_lt_of_le hj h.size) (fun ht => hs (hT j hj ht))).trans (h.block j hj hs)⟩
theorem Kept.mono {a b : World} {S T : Nat → Prop} (h : Kept a b S) (hT : ∀ j, j < a.heap.size → S j → T j) : Kept a b T :=
  ⟨h.os, h.tape, h.output, h.size, fun j hj ht => h.block j hj (fun hs => ht (hT j hj hs))⟩
theorem Kept.ofBelow {B : Nat} {a b : World} (h : Below B a b) (S : Nat → Prop) (hS : ∀ j, j < a.heap.size → B ≤ j → S j) : Kept a b S :=
  ⟨h.os, h.tape, h.output, h.size, fun j hj hs => h.block j (Nat.lt_of_not_le fun hb => hs (hS j hj hb))⟩
theorem Kept.below {B : Nat} {a b : World} {S : Nat → Prop} (h : Kept a b S) (hB : B ≤ a.heap.size) (hS : ∀ j, j < B → ¬ S j) : Below B a b :=
  ⟨h.os, h.tape, h.output, h.size, fun j hj => h.block j (by omega) (hS j hj)⟩
theorem Kept.ofGrown {a b : World} {row : Option Nat} (h : a.grownBy b row) (S : Nat → Prop) (hS : ∀ j, some j = row → S j) : Kept a b S :=
  ⟨h.os, h.tape, h.output, h.size, fun j hj hs => h.block j hj (fun e => hs (hS j e))⟩
theorem Kept.alloc {a b : World} {S : Nat → Prop} (h : Kept a b S) (o : Obj) : Kept a (b.alloc o) S :=
  h.trans (T := S) ⟨rfl, rfl, rfl, by simp, fun k hk _ => Below.heap_alloc b o k hk⟩ (fun _ _ h => h)
theorem Kept.drew {a b : World} {S : Nat → Prop} (h : Kept a b S) : Kept a b.drew S := ⟨h.os, h.tape, h.output, h.size, h.block⟩
theorem Kept.setCell {a b : World} {S : Nat → Prop} (h : Kept a b S) (p : Addr) (u : Value) (hp : S p.block) : Kept a (b.setCell p u) S :=
  h.trans (T := S) ⟨rfl, rfl, rfl, by simp, fun k _ hs => heap_setCell_other b p k u (fun e => hs (e ▸ hp))⟩ (fun _ _ h => h)
/-- what an append (or none) onto the row of v leaves, its first N cells kept -/
structure Step (S : Nat → Prop) (w w' : World) (v v' : Value) (N : Nat) : Prop where
  kept : Kept w w' (fun k => S k ∨ some k = v.ownBlock)
  row : ∀ g, v.ownBlock = some g → ¬ S g → ∀ cur e, w.heap[g]? = some (.cells cur e (0, 0)) → ∃ cur' : Array Value, w'.heap[g]? = some (.cells cur' e (0, 0)) ∧ cur'.size = cur.size ∧ ∀ j, j < N → cur'[j]? = cur[j]?
  here : v'.ownBlock = v.ownBlock ∨ ∃ k, v'.ownBlock = some k ∧ w.heap.size ≤ k
theorem Step.refl (S : Nat → Prop) {w w' : World} (v : Value) (N : Nat) (h : Kept w w' S) : Step S w w' v v N :=
  ⟨h.mono (fun _ _ h => .inl h), fun g _ hs cur e hc => ⟨cur, by rw [h.block g (Array.getElem?_eq_some_iff.1 hc).1 hs]; exact hc, rfl, fun _ _ => rfl⟩, .inl rfl⟩
theorem Step.trans {S : Nat → Prop} {w w' w'' : World} {v v' v'' : Value} {N N' : Nat} (h : Step S w w' v v' N) (k : Step S w' w'' v' v'' N') (hN : N ≤ N') : Step S w w'' v v'' N := by
  refine ⟨?_, ?_, ?_⟩
  · refine h.kept.trans k.kept (fun j hj hs => ?_)
    rcases hs with hs | hs
    · exact .inl hs
    · rcases h.here with e | ⟨q, e, hq⟩
      · exact .inr (hs.trans e)
      · rw [e] at hs
        simp only [Option.some.injEq] at hs
        omega
  · intro g hg hs cur e hc
    obtain ⟨cur', h1, h2, h3⟩ := h.row g hg hs cur e hc
    rcases h.here with e1 | ⟨q, e1, hq⟩
    · obtain ⟨cur'', k1, k2, k3⟩ := k.row g (e1.trans hg) hs cur' e h1
      exact ⟨cur'', k1, k2.trans h2, fun j hj => (k3 j (by omega)).trans (h3 j hj)⟩
    · have hl := (Array.getElem?_eq_some_iff.1 hc).1
      have hl' := (Array.getElem?_eq_some_iff.1 h1).1
      refine ⟨cur', ?_, h2, h3⟩
      rw [k.kept.block g hl' (fun hx => ?_)]
      · exact h1
      · rcases hx with hx | hx
        · exact hs hx
        · rw [e1] at hx
          simp only [Option.some.injEq] at hx
          omega
  · rcases k.here with e | ⟨q, e, hq⟩
    · rcases h.here with e1 | ⟨q1, e1, hq1⟩
      · exact .inl (e.trans e1)
      · exact .inr ⟨q1, e.trans e1, hq1⟩
    · exact .inr ⟨q, e, Nat.le_trans h.kept.size hq⟩
theorem Step.mono {S T : Nat → Prop} {w w' : World} {v v' : Value} {N : Nat} (h : Step S w w' v v' N) (hS : ∀ j, S j → T j) : Step T w w' v v' N :=
  ⟨h.kept.mono (fun j _ hs => hs.elim (fun h => .inl (hS j h)) .inr), fun g hg hs => h.row g hg (fun h' => hs (hS g h')), h.here⟩
/-- two slices that lie in different rows -/
def Apart (u v : Value) : Prop := u.ownBlock = none ∨ u.ownBlock ≠ v.ownBlock
theorem Apart.symm {u v : Value} (h : Apart u v) : Apart v u := by
  rcases h with h | h
  · by_cases hv : v.ownBlock = none
    · exact .inl hv
    · exact .inr (by rw [h]; exact hv)
  · exact .inr (Ne.symm h)
theorem apart_nil (v : Value) : Apart (.slice none 0 0) v := .inl rfl
theorem Step.apart {S : Nat → Prop} {w w' : World} {v v' u : Value} {base : Nat} {e : TypeId} {size n N : Nat} {xs : List Value} (h : Step S w w' v v' N) (hu : w.ownsRow base e size u n xs) (ha : Apart u v) : Apart u v' := by
  rcases ha with ha | ha
  · exact .inl ha
  · rcases h.here with h1 | ⟨k, h1, h2⟩
    · exact .inr (by rw [h1]; exact ha)
    · refine .inr fun he => ?_
      rw [h1] at he
      have := (hu.lt k he).2
      omega
/-- rows of two element types are apart -/
theorem apart_types {w : World} {base base' : Nat} {e e' : TypeId} {size size' n n' : Nat} {u v : Value} {xs ys : List Value} (hu : w.ownsRow base e size u n xs) (hv : w.ownsRow base' e' size' v n' ys) (he : e ≠ e') : Apart u v := by
  rcases hu.2 with ⟨rfl, _⟩ | ⟨g, cap, cur, rfl, _, hg, _⟩
  · exact .inl rfl
  · rcases hv.2 with ⟨rfl, _⟩ | ⟨g', cap', cur', rfl, _, hg', _⟩
    · exact .inr (by simp [Value.ownBlock])
    · refine .inr fun h => he ?_
      simp only [Value.ownBlock, Option.some.injEq] at h
      subst h
      rw [hg] at hg'
      simp only [Option.some.injEq, Obj.cells.injEq] at hg'
      exact hg'.2.1
theorem take_of_get {a b : List Value} {n : Nat} (h : ∀ j, j < n → a[j]? = b[j]?) : a.take n = b.take n := by
  apply List.ext_getElem?
  intro j
  rw [List.getElem?_take, List.getElem?_take]
  split
  · exact h j (by assumption)
  · rfl
/-- a slice in another row, or over the head of the same row, keeps what it holds -/
theorem Step.keep {S : Nat → Prop} {w w' : World} {v v' u : Value} {base : Nat} {e : TypeId} {size m N : Nat} {ys : List Value} (h : Step S w w' v v' N)
    (hu : w.ownsRow base e size u m ys) (hS : ∀ j, S j → j < base) (hm : Apart u v ∨ m * size ≤ N) : w'.ownsRow base e size u m ys := by
  refine ⟨hu.1, ?_⟩
  rcases hu.2 with hn | ⟨g, cap, cur, rfl, b1, b2, b3, b4, b5, b6⟩
  · exact .inl hn
  · have hl := (Array.getElem?_eq_some_iff.1 b2).1
    have hnS : ¬ S g := fun hs => by have := hS g hs; omega
    by_cases hb : some g = v.ownBlock
    · rcases hm with hm | hm
      · rcases hm with hm | hm
        · simp [Value.ownBlock] at hm
        · exact absurd hb (by simpa [Value.ownBlock] using hm)
      · obtain ⟨cur', c1, c2, c3⟩ := h.row g hb.symm hnS cur e b2
        refine .inr ⟨g, cap, cur', rfl, b1, c1, b3, b4, by omega, ?_⟩
        rw [← b6]
        exact take_of_get (fun j hj => by simpa using c3 j (by omega))
    · exact .inr ⟨g, cap, cur, rfl, b1, by rw [h.kept.block g hl (fun hx => hx.elim hnS hb)]; exact b2, b3, b4, b5, b6⟩
theorem Kept.owns {w w' : World} {S : Nat → Prop} {base : Nat} {e : TypeId} {size m : Nat} {u : Value} {ys : List Value} (h : Kept w w' S) (hu : w.ownsRow base e size u m ys) (hS : ∀ j, S j → j < base) : w'.ownsRow base e size u m ys :=
  (Step.refl S u (m * size) h).keep hu hS (.inr (Nat.le_refl _))
theorem owns_base {w : World} {b b' : Nat} {e : TypeId} {size m : Nat} {u : Value} {ys : List Value} (h : w.ownsRow b e size u m ys) (hb : b' ≤ b) : w.ownsRow b' e size u m ys := by
  refine ⟨h.1, h.2.imp_right ?_⟩
  rintro ⟨g, cap, cur, h1, h2, h3⟩
  exact ⟨g, cap, cur, h1, Nat.le_trans hb h2, h3⟩
theorem owns_form {w : World} {b : Nat} {e : TypeId} {size m : Nat} {u : Value} {ys : List Value} (h : w.ownsRow b e size u m ys) (hm : 0 < m) : ∃ g cap, u = .slice (some ⟨g, 0, none⟩) m cap := by
  rcases h.2 with ⟨_, h0⟩ | ⟨g, cap, _, rfl, _⟩
  · omega
  · exact ⟨g, cap, rfl⟩
section
variable {P : Program} (w : World)
theorem run_append_step (base : Nat) (t ty e : TypeId) (i : TypeInfo) (z : Value) (size bytes : Nat) (ht : P.underlying t = some (.slice e)) (hi : P.info? e = some i) (hz : i.zero = some z)
    (hsize : i.size = size) (hby : i.bytes = bytes) (hzs : z.cells.size = size) (hsz : 0 < size)
    (v : Value) (n : Nat) (xs : List Value) (hown : w.ownsRow base e size v n xs)
    (a : Addr) (m c : Nat) (news : List Value) (hl : news.length = m * size) (hnews : ∀ j u, news[j]? = some u → w.cell? (a.add j) = some u) (h1 : ∀ u ∈ news, u.oneCell' = true)
    (h63 : n + m ≤ maxLen) (hbytes : (n + m) * bytes ≤ 140737488355328) (hbase : base ≤ w.heap.size) :
    ∃ v' w', (Builtin.append_ #[t, t] ty #[v, .slice (some a) m c]).run P w = .ok v' w' ∧ w'.ownsRow base e size v' (n + m) (xs ++ news) ∧ Step (fun _ => False) w w' v v' (n * size) := by
  rcases hown.2 with ⟨rfl, rfl⟩ | ⟨g, cap, cur, rfl, b1, b2, b3, b4, b5, b6⟩
  · have hx : xs = [] := List.eq_nil_of_length_eq_zero (by simpa using hown.1)
    subst hx
    obtain ⟨v', w', hr, ho, hg, _⟩ := run_append_own (P := P) w w.heap.size t ty e i z size bytes ht hi hz hsize hby hzs hsz (.slice none 0 0) 0 [] (World.ownsRow_nil _ _ _ _) a m c news hl hnews h1 h63 hbytes (Nat.le_refl _)
    refine ⟨v', w', hr, owns_base ho hbase, Kept.ofGrown hg _ (fun j h => .inr h), fun g hg => by simp [Value.ownBlock] at hg, ?_⟩
    cases hv : v'.ownBlock with
    | none => exact .inl rfl
    | some k => exact .inr ⟨k, rfl, (ho.lt k hv).1⟩
  · by_cases hroom : n + m ≤ cap
    · obtain ⟨w', hr, ho, hg⟩ := run_append_fits (P := P) w base t ty e i size ht hi hsize g n cap xs hown a m c news hl hnews h1 hroom
      refine ⟨_, w', hr, ho, Kept.ofGrown hg _ (fun j h => .inr h), fun g' hg' _ cur1 e1 hc => ?_, .inl rfl⟩
      simp only [Value.ownBlock, Option.some.injEq] at hg'
      subst hg'
      rw [b2] at hc
      simp only [Option.some.injEq, Obj.cells.injEq, and_true] at hc
      obtain ⟨rfl, rfl⟩ := hc
      rcases ho.2 with ⟨h', _⟩ | ⟨g2, cap2, cur2, h', c1, c2, c3, c4, c5, c6⟩
      · simp at h'
      · simp only [Value.slice.injEq, Option.some.injEq, Addr.mk.injEq, and_true, true_and] at h'
        obtain ⟨rfl, rfl⟩ := h'
        refine ⟨cur2, c2, c5.trans b5.symm, fun j hj => ?_⟩
        have q1 : cur2.toList[j]? = (xs ++ news)[j]? := by
          rw [← c6, List.getElem?_take, if_pos (by rw [Nat.add_mul]; omega)]
        have q2 : cur.toList[j]? = xs[j]? := by rw [← b6, List.getElem?_take, if_pos hj]
        have q3 : (xs ++ news)[j]? = xs[j]? := List.getElem?_append_left (by rw [hown.1]; exact hj)
        simpa using q1.trans (q3.trans q2.symm)
    · obtain ⟨v', w', hr, ho, hg⟩ := run_append_arg_grows (P := P) w t ty e i z size bytes ht hi hz hsize hby hzs hsz ⟨g, 0, none⟩ n cap xs hown.1 (hown.cells rfl) a m c news hl hnews (by omega) h63 hbytes
      refine ⟨v', w', hr, owns_base ho hbase, Kept.ofGrown hg _ (fun j h => by simp at h), fun g' hg' _ cur1 e1 hc => ⟨cur1, ?_, rfl, fun _ _ => rfl⟩, ?_⟩
      · rw [hg.block g' (Array.getElem?_eq_some_iff.1 hc).1 (by simp)]; exact hc
      · cases hv : v'.ownBlock with
        | none =>
          exfalso
          rcases ho.2 with ⟨rfl, h0⟩ | ⟨g2, cap2, cur2, rfl, _⟩
          · omega
          · simp [Value.ownBlock] at hv
        | some k => exact .inr ⟨k, rfl, (ho.lt k hv).1⟩
theorem wpList_append_step {ops : Array Oper} {rest : List Oper} {o : Oper} {a : Act} {Q : Exit → Act → World → Prop} (hgd : o.guard = none) (s x : Operand) (t : TypeId)
    (ho : o.op = .call { callee := .builtin .append, args := #[s, x], argTypes := #[t, t] })
    (base : Nat) (e : TypeId) (i : TypeInfo) (z : Value) (size bytes : Nat) (ht : P.underlying t = some (.slice e)) (hi : P.info? e = some i) (hz : i.zero = some z)
    (hsize : i.size = size) (hby : i.bytes = bytes) (hzs : z.cells.size = size) (hsz : 0 < size)
    (v : Value) (n : Nat) (xs : List Value) (hs : a.eval s = v) (hown : w.ownsRow base e size v n xs)
    (ad : Addr) (m c : Nat) (news : List Value) (hx : a.eval x = .slice (some ad) m c) (hl : news.length = m * size) (hnews : ∀ j u, news[j]? = some u → w.cell? (ad.add j) = some u) (h1 : ∀ u ∈ news, u.oneCell' = true)
    (h63 : n + m ≤ maxLen) (hbytes : (n + m) * bytes ≤ 140737488355328) (hbase : base ≤ w.heap.size)
    (h : ∀ v' w', w'.ownsRow base e size v' (n + m) (xs ++ news) → Step (fun _ => False) w w' v v' (n * size) → wpList P ops Q rest (a.put o.dst v') w') : wpList P ops Q (o :: rest) a w := by
  refine wpList_plain hgd fun _ hK => ?_
  obtain ⟨v', w', hr, h2, h3⟩ := run_append_step (P := P) w base t o.type e i z size bytes ht hi hz hsize hby hzs hsz v n xs hown ad m c news hl hnews h1 h63 hbytes hbase
  unfold Oper.wp execOp
  simp only [ho, resolve, invoke, builtin, Sem.run_bind, Sem.run_pure, Result.andThen_ok, List.map_toArray, List.map_cons, List.map_nil, hs, hx, hr]
  exact hK _ _ (h v' w' h2 h3)
/-- the same at a step of a region that draws its order -/
theorem step_append_step {ops : Array Oper} {o : Oper} {a : Act} {K : Act → World → Prop} {Q : Exit → Act → World → Prop} {E : Prop} (hgd : o.guard = none) (s x : Operand) (t : TypeId)
    (ho : o.op = .call { callee := .builtin .append, args := #[s, x], argTypes := #[t, t] })
    (base : Nat) (e : TypeId) (i : TypeInfo) (z : Value) (size bytes : Nat) (ht : P.underlying t = some (.slice e)) (hi : P.info? e = some i) (hz : i.zero = some z)
    (hsize : i.size = size) (hby : i.bytes = bytes) (hzs : z.cells.size = size) (hsz : 0 < size)
    (v : Value) (n : Nat) (xs : List Value) (hs : a.eval s = v) (hown : w.ownsRow base e size v n xs)
    (ad : Addr) (m c : Nat) (news : List Value) (hx : a.eval x = .slice (some ad) m c) (hl : news.length = m * size) (hnews : ∀ j u, news[j]? = some u → w.cell? (ad.add j) = some u) (h1 : ∀ u ∈ news, u.oneCell' = true)
    (h63 : n + m ≤ maxLen) (hbytes : (n + m) * bytes ≤ 140737488355328) (hbase : base ≤ w.heap.size)
    (h : ∀ v' w', w'.ownsRow base e size v' (n + m) (xs ++ news) → Step (fun _ => False) w w' v v' (n * size) → K (a.put o.dst v') w') :
    if Region.wanted o (yielded ops a.tmps) = true then Oper.wp P o a w K Q else E := by
  have hw : Region.wanted o (yielded ops a.tmps) = true := by simp [Region.wanted, hgd]
  rw [if_pos hw]
  obtain ⟨v', w', hr, h2, h3⟩ := run_append_step (P := P) w base t o.type e i z size bytes ht hi hz hsize hby hzs hsz v n xs hown ad m c news hl hnews h1 h63 hbytes hbase
  unfold Oper.wp execOp
  simp only [ho, resolve, invoke, builtin, Sem.run_bind, Sem.run_pure, Result.andThen_ok, List.map_toArray, List.map_cons, List.map_nil, hs, hx, hr]
  exact h v' w' h2 h3
end
/-- a cell of another row than the one appended to is as it was -/
theorem Step.cell {S : Nat → Prop} {w w' : World} {v v' : Value} {N : Nat} (h : Step S w w' v v' N) (p : Addr) (hp : p.block < w.heap.size) (hs : ¬ S p.block) (hne : some p.block ≠ v.ownBlock) : w'.cell? p = w.cell? p :=
  World.cell?_of_block (w := w) (h.kept.block _ hp (fun hx => hx.elim hs hne))
end Go.Proofs.Qxb6614485a
