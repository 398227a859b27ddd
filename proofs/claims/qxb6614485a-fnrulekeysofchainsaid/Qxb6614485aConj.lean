/- The conjuncts' builders (10 .. 14, 5). -/
import Derived.Test.Qxb6614485aRows
import Derived.WalkKit
import Derived.ProofKit
import Derived.Below
namespace Go.Proofs.Qxb6614485a
open Go.RowKit
/-- a field of the rule or of the request -/
abbrev fieldV (r : Bool) (i : Int) : Value := .iface 53 (.agg #[.bool r, .int .i64 i])
/-- an operand's four cells -/
abbrev opnd (x : Value) : Array Value := #[x, .string ⟨#[]⟩, .int .u8 0, .int .i64 0]
abbrev binC (x y : Value) : Array Value := #[.int .i64 0, x, .string ⟨#[]⟩, .int .u8 0, .int .i64 0, y, .string ⟨#[]⟩, .int .u8 0, .int .i64 0]
abbrev roleC (x y : Value) : Array Value := #[.string ⟨#[103]⟩, x, .string ⟨#[]⟩, .int .u8 0, .int .i64 0, y, .string ⟨#[]⟩, .int .u8 0, .int .i64 0, .pointer none]
abbrev regC (x y : Value) : Array Value := #[x, .string ⟨#[]⟩, .int .u8 0, .int .i64 0, y, .string ⟨#[]⟩, .int .u8 0, .int .i64 0, .pointer none, .int .i64 0]
/-- x is the interface of a binary whose sides are y, z -/
def IsBin (w : World) (B : Nat) (y z x : Value) : Prop := ∃ k, k < B ∧ x = .iface 50 (.pointer (some ⟨k, 0, none⟩)) ∧ w.heap[k]? = some (.cells (binC y z) 55 (0, 0))
def IsRole (w : World) (B : Nat) (y z x : Value) : Prop := ∃ k, k < B ∧ x = .iface 56 (.pointer (some ⟨k, 0, none⟩)) ∧ w.heap[k]? = some (.cells (roleC y z) 58 (0, 0))
def IsNot (w : World) (B : Nat) (y z x : Value) : Prop := ∃ k u, k < B ∧ x = .iface 59 (.pointer (some ⟨k, 0, none⟩)) ∧ w.heap[k]? = some (.cells (opnd u) 61 (0, 0)) ∧ IsRole w B y z u
def IsReg (w : World) (B : Nat) (y z x : Value) : Prop := ∃ k, k < B ∧ x = .iface 62 (.pointer (some ⟨k, 0, none⟩)) ∧ w.heap[k]? = some (.cells (regC y z) 65 (0, 0))
/-- x is the interface cell of the conjunct of shape t over a and b -/
def IsConj (w : World) (B : Nat) (t a b : Int) (x : Value) : Prop :=
  (t = 0 ∧ IsBin w B (fieldV true a) (fieldV false b) x) ∨ (t = 1 ∧ IsBin w B (fieldV false b) (fieldV true a) x) ∨ (t = 2 ∧ IsRole w B (fieldV false b) (fieldV true a) x) ∨
  (t = 3 ∧ IsNot w B (fieldV false b) (fieldV true a) x) ∨ (t = 4 ∧ IsReg w B (fieldV false b) (fieldV false a) x)
theorem IsBin.keep {w w' : World} {B B' : Nat} {y z x : Value} (h : IsBin w B y z x) (hB : B ≤ B') (hk : ∀ j, j < B → w'.heap[j]? = w.heap[j]?) : IsBin w' B' y z x := by
  obtain ⟨k, h1, h2, h3⟩ := h; exact ⟨k, by omega, h2, (hk k h1).trans h3⟩
theorem IsRole.keep {w w' : World} {B B' : Nat} {y z x : Value} (h : IsRole w B y z x) (hB : B ≤ B') (hk : ∀ j, j < B → w'.heap[j]? = w.heap[j]?) : IsRole w' B' y z x := by
  obtain ⟨k, h1, h2, h3⟩ := h; exact ⟨k, by omega, h2, (hk k h1).trans h3⟩
theorem IsReg.keep {w w' : World} {B B' : Nat} {y z x : Value} (h : IsReg w B y z x) (hB : B ≤ B') (hk : ∀ j, j < B → w'.heap[j]? = w.heap[j]?) : IsReg w' B' y z x := by
  obtain ⟨k, h1, h2, h3⟩ := h; exact ⟨k, by omega, h2, (hk k h1).trans h3⟩
theorem IsNot.keep {w w' : World} {B B' : Nat} {y z x : Value} (h : IsNot w B y z x) (hB : B ≤ B') (hk : ∀ j, j < B → w'.heap[j]? = w.heap[j]?) : IsNot w' B' y z x := by
  obtain ⟨k, u, h1, h2, h3, h4⟩ := h; exact ⟨k, u, by omega, h2, (hk k h1).trans h3, h4.keep hB hk⟩
theorem IsConj.keep {w w' : World} {B B' : Nat} {t a b : Int} {x : Value} (h : IsConj w B t a b x) (hB : B ≤ B') (hk : ∀ j, j < B → w'.heap[j]? = w.heap[j]?) : IsConj w' B' t a b x := by
  rcases h with ⟨h1, h⟩ | ⟨h1, h⟩ | ⟨h1, h⟩ | ⟨h1, h⟩ | ⟨h1, h⟩
  · exact .inl ⟨h1, h.keep hB hk⟩
  · exact .inr (.inl ⟨h1, h.keep hB hk⟩)
  · exact .inr (.inr (.inl ⟨h1, h.keep hB hk⟩))
  · exact .inr (.inr (.inr (.inl ⟨h1, h.keep hB hk⟩)))
  · exact .inr (.inr (.inr (.inr ⟨h1, h.keep hB hk⟩)))
/-- a whole struct stored at the head of its own block -/
theorem wpList_store_blk {P : Program} {ops : Array Oper} {rest : List Oper} {o : Oper} {a : Act} {w : World} {Q : Exit → Act → World → Prop} (hgd : o.guard = none) (ty : TypeId) (x y : Operand) (ho : o.op = .store ty x y)
    (g : Nat) (cells : Array Value) (hx : a.eval x = .pointer (some ⟨g, 0, none⟩)) (hy : a.eval y = .agg cells)
    (t : TypeId) (old : Array Value) (hg : w.heap[g]? = some (.cells old t (0, 0))) (hi : (P.info? ty).map (·.size) = some cells.size)
    (hold : old.size = cells.size) (h1 : cells.all (·.oneCell') = true)
    (h : ∀ w1, w1.heap[g]? = some (.cells cells t (0, 0)) → w.grownBy w1 (some g) → wpList P ops Q rest (a.put o.dst undef) w1) : wpList P ops Q (o :: rest) a w :=
  wpList_plain hgd fun _ hK => wp_store_row ty x y ho g cells hx hy t old hg hi hold h1
    (hK _ _ (h (w.setRow g cells) (setRow_heap w g old cells t (0, 0) hg) ⟨rfl, rfl, rfl, by simp, fun k _ hk => setRow_other w g k cells (fun e => hk (by rw [e]))⟩))
theorem opnd_one (t : TypeId) (v : Value) : (opnd (.iface t v)).all (·.oneCell') = true := by simp [Value.oneCell']
theorem Try.size30 : (Try.prog.info? 30).map (·.size) = some 4 := by kernel_rfl
theorem below2 (w : World) (o p : Obj) : Below w.heap.size w ((w.alloc o).alloc p) := ((Below.refl _ _).alloc (Nat.le_refl _) o).alloc (by simp) p
set_option maxHeartbeats 400000 in
theorem mk0 (a b : Int) (w : World) :
    Calls Try.prog 10 #[.int .i64 a, .int .i64 b] w fun e w' => ∃ x, e = .returned (.agg (opnd x)) ∧ IsBin w' w'.heap.size (fieldV true a) (fieldV false b) x ∧ Below w.heap.size w w' := by
  go_enter Try.func10, Try.ntmps10
  go_wp2
  exact bodyPost_ret (results_cell_row rfl _ _ w.heap.size 30 (opnd _) (0, 0) _ rfl (heap_alloc2_old _ _ _) Try.underlying30 rfl Try.size30) rfl
    ⟨_, rfl, ⟨_, by simp, rfl, heap_alloc2_new _ _ _⟩, below2 _ _ _⟩
set_option maxHeartbeats 400000 in
theorem mk1 (a b : Int) (w : World) :
    Calls Try.prog 11 #[.int .i64 a, .int .i64 b] w fun e w' => ∃ x, e = .returned (.agg (opnd x)) ∧ IsBin w' w'.heap.size (fieldV false b) (fieldV true a) x ∧ Below w.heap.size w w' := by
  go_enter Try.func11, Try.ntmps11
  go_wp2
  exact bodyPost_ret (results_cell_row rfl _ _ w.heap.size 30 (opnd _) (0, 0) _ rfl (heap_alloc2_old _ _ _) Try.underlying30 rfl Try.size30) rfl
    ⟨_, rfl, ⟨_, by simp, rfl, heap_alloc2_new _ _ _⟩, below2 _ _ _⟩
set_option maxHeartbeats 400000 in
theorem mk2 (a b : Int) (w : World) :
    Calls Try.prog 12 #[.int .i64 a, .int .i64 b] w fun e w' => ∃ x, e = .returned (.agg (opnd x)) ∧ IsRole w' w'.heap.size (fieldV false b) (fieldV true a) x ∧ Below w.heap.size w w' := by
  go_enter Try.func12, Try.ntmps12
  go_wp2
  exact bodyPost_ret (results_cell_row rfl _ _ w.heap.size 30 (opnd _) (0, 0) _ rfl (heap_alloc2_old _ _ _) Try.underlying30 rfl Try.size30) rfl
    ⟨_, rfl, ⟨_, by simp, rfl, heap_alloc2_new _ _ _⟩, below2 _ _ _⟩
set_option maxHeartbeats 400000 in
theorem mk4 (a b : Int) (w : World) :
    Calls Try.prog 14 #[.int .i64 a, .int .i64 b] w fun e w' => ∃ x, e = .returned (.agg (opnd x)) ∧ IsReg w' w'.heap.size (fieldV false b) (fieldV false a) x ∧ Below w.heap.size w w' := by
  go_enter Try.func14, Try.ntmps14
  go_wp2
  exact bodyPost_ret (results_cell_row rfl _ _ w.heap.size 30 (opnd _) (0, 0) _ rfl (heap_alloc2_old _ _ _) Try.underlying30 rfl Try.size30) rfl
    ⟨_, rfl, ⟨_, by simp, rfl, heap_alloc2_new _ _ _⟩, below2 _ _ _⟩
theorem below_up {w w1 w2 w3 : World} {o p : Obj} {n : Nat} (hb : Below (w.alloc o).heap.size (w.alloc o) w1) (h2 : w2 = w1.alloc p) (hg : w2.grownBy w3 (some n)) (hn : w.heap.size ≤ n) : Below w.heap.size w w3 := by
  subst h2
  have hs := hb.size
  simp at hs
  exact ((((Below.refl _ _).alloc (Nat.le_refl _) o).trans (hb.mono (by simp))).alloc (by omega) p).grown hg (by simp; omega) (fun k h => by cases h; exact hn)
set_option maxHeartbeats 400000 in
theorem mk3 (a b : Int) (w : World) :
    Calls Try.prog 13 #[.int .i64 a, .int .i64 b] w fun e w' => ∃ x, e = .returned (.agg (opnd x)) ∧ IsNot w' w'.heap.size (fieldV false b) (fieldV true a) x ∧ Below w.heap.size w w' := by
  go_enter Try.func13, Try.ntmps13
  go_wp2_with (first
    | (go_at_call 12; refine (mk2 a b _).mono ?_; rintro e w1 ⟨x, rfl, hx, hb⟩; have hs := hb.size; simp at hs)
    | (refine wpList_store_blk rfl 30 (.tmp 4) (.tmp 11) rfl w.heap.size (opnd _) rfl rfl 30 (opnd .nilIface) (by rw [Below.heap_alloc _ _ _ (by omega), hb.block _ (by simp)]; exact heap_alloc_new _ _) Try.size30 rfl (opnd_one _ _) ?_; intro w2 h2 hg2))
  have hl : ∀ j, j < w1.heap.size + 1 → j ≠ w.heap.size → w2.heap[j]? = (w1.alloc (.cells (opnd x) 61)).heap[j]? := fun j h1 h3 => hg2.block j (by simpa using h1) (by simpa using h3)
  have hz := hg2.size
  simp at hz
  refine bodyPost_ret (results_cell_row rfl _ _ w.heap.size 30 (opnd _) (0, 0) _ rfl h2 Try.underlying30 rfl Try.size30) rfl
    ⟨_, rfl, ⟨w1.heap.size, x, by omega, rfl, (hl _ (by omega) (by omega)).trans (heap_alloc_new _ _), ?_⟩, below_up hb rfl hg2 (Nat.le_refl _)⟩
  obtain ⟨k, k1, k2, k3⟩ := hx
  have hne : k ≠ w.heap.size := by
    rintro rfl
    rw [hb.block _ (by simp), heap_alloc_new] at k3
    cases k3
  exact ⟨k, by omega, k2, by rw [hl _ (by omega) hne, Below.heap_alloc _ _ _ k1]; exact k3⟩
theorem conj_up {w w1 w2 : World} {o : Obj} {t a b : Int} {x : Value} (hc : IsConj w1 w1.heap.size t a b x) (h0 : o = .cells (opnd .nilIface) 30)
    (hb : Below (w.alloc o).heap.size (w.alloc o) w1) (hg : w1.grownBy w2 (some w.heap.size)) : IsConj w2 w2.heap.size t a b x ∧ Below w.heap.size w w2 := by
  subst h0
  have hs := hb.size
  have hz := hg.size
  simp at hs
  have hl : ∀ j, j < w1.heap.size → j ≠ w.heap.size → w2.heap[j]? = w1.heap[j]? := fun j h1 h3 => hg.block j h1 (by simpa using h3)
  have h30 : w1.heap[w.heap.size]? = some (.cells (opnd .nilIface) 30 (0, 0)) := by rw [hb.block _ (by simp)]; exact heap_alloc_new _ _
  have key : ∀ (k : Nat) (cs : Array Value) (t : TypeId), t ≠ 30 → w1.heap[k]? = some (.cells cs t (0, 0)) → w2.heap[k]? = some (.cells cs t (0, 0)) := by
    intro k cs t ht hk
    have h1 : k < w1.heap.size := (Array.getElem?_eq_some_iff.1 hk).1
    have hne : k ≠ w.heap.size := by
      rintro rfl
      rw [h30] at hk
      simp only [Option.some.injEq, Obj.cells.injEq] at hk
      exact ht hk.2.1.symm
    rw [hl k h1 hne]; exact hk
  refine ⟨?_, ((((Below.refl _ _).alloc (Nat.le_refl _) _).trans (hb.mono (by simp))).grown hg (by omega) (fun k h => by cases h; exact Nat.le_refl _))⟩
  have kb : ∀ {y z x}, IsBin w1 w1.heap.size y z x → IsBin w2 w2.heap.size y z x := fun ⟨k, k1, k2, k3⟩ => ⟨k, by omega, k2, key _ _ _ (by decide) k3⟩
  have kr : ∀ {y z x}, IsRole w1 w1.heap.size y z x → IsRole w2 w2.heap.size y z x := fun ⟨k, k1, k2, k3⟩ => ⟨k, by omega, k2, key _ _ _ (by decide) k3⟩
  rcases hc with ⟨h1, h⟩ | ⟨h1, h⟩ | ⟨h1, h⟩ | ⟨h1, ⟨k, u, k1, k2, k3, k4⟩⟩ | ⟨h1, ⟨k, k1, k2, k3⟩⟩
  · exact .inl ⟨h1, kb h⟩
  · exact .inr (.inl ⟨h1, kb h⟩)
  · exact .inr (.inr (.inl ⟨h1, kr h⟩))
  · exact .inr (.inr (.inr (.inl ⟨h1, ⟨k, u, by omega, k2, key _ _ _ (by decide) k3, kr k4⟩⟩)))
  · exact .inr (.inr (.inr (.inr ⟨h1, ⟨k, by omega, k2, key _ _ _ (by decide) k3⟩⟩)))
/-- the interface cell is one cell -/
theorem IsConj.one {w : World} {B : Nat} {t a b : Int} {x : Value} (h : IsConj w B t a b x) : (opnd x).all (·.oneCell') = true := by
  rcases h with ⟨_, k, _, rfl, _⟩ | ⟨_, k, _, rfl, _⟩ | ⟨_, k, _, rfl, _⟩ | ⟨_, k, _, _, rfl, _⟩ | ⟨_, k, _, rfl, _⟩ <;> exact opnd_one _ _
set_option maxHeartbeats 1000000 in
/-- keyConjunct (5) -/
theorem conj_any (t a b : Int) (w : World) (h0 : 0 ≤ t) (h4 : t ≤ 4) :
    Calls Try.prog 5 #[.int .u8 t, .int .i64 a, .int .i64 b] w fun e w' => ∃ x, e = .returned (.agg (opnd x)) ∧ IsConj w' w'.heap.size t a b x ∧ Below w.heap.size w w' := by
  have hbk : ∀ {w1 : World}, Below (w.alloc (.cells (opnd .nilIface) 30)).heap.size (w.alloc (.cells (opnd .nilIface) 30)) w1 → w1.heap[w.heap.size]? = some (.cells (opnd .nilIface) 30 (0, 0)) := fun hb => by
    rw [hb.block _ (by simp)]; exact heap_alloc_new _ _
  have HBK : Hid (∀ {w1 : World}, Below (w.alloc (.cells (opnd .nilIface) 30)).heap.size (w.alloc (.cells (opnd .nilIface) 30)) w1 → w1.heap[w.heap.size]? = some (.cells (opnd .nilIface) 30 (0, 0))) := hbk
  clear hbk
  rcases (by omega : t = 0 ∨ t = 1 ∨ t = 2 ∨ t = 3 ∨ t = 4) with rfl | rfl | rfl | rfl | rfl
  · go_enter Try.func5, Try.ntmps5
    go_wp2_with (first
      | (go_at_call 10; refine (mk0 a b _).mono ?_; rintro e w1 ⟨x, rfl, hx, hb⟩)
      | (refine wpList_store_blk rfl 30 (.tmp 6) (.tmp 12) rfl w.heap.size (opnd _) rfl rfl 30 (opnd .nilIface) (HBK.out hb) Try.size30 rfl (IsConj.one (.inl ⟨rfl, hx⟩)) ?_; intro w2 h2 hg2))
    exact bodyPost_ret (results_cell_row rfl _ _ w.heap.size 30 (opnd _) (0, 0) _ rfl h2 Try.underlying30 rfl Try.size30) rfl ⟨_, rfl, conj_up (.inl ⟨rfl, hx⟩) rfl hb hg2⟩
  · go_enter Try.func5, Try.ntmps5
    go_wp2_with (first
      | (go_at_call 11; refine (mk1 a b _).mono ?_; rintro e w1 ⟨x, rfl, hx, hb⟩)
      | (refine wpList_store_blk rfl 30 (.tmp 6) (.tmp 17) rfl w.heap.size (opnd _) rfl rfl 30 (opnd .nilIface) (HBK.out hb) Try.size30 rfl (IsConj.one (.inr (.inl ⟨rfl, hx⟩))) ?_; intro w2 h2 hg2))
    exact bodyPost_ret (results_cell_row rfl _ _ w.heap.size 30 (opnd _) (0, 0) _ rfl h2 Try.underlying30 rfl Try.size30) rfl ⟨_, rfl, conj_up (.inr (.inl ⟨rfl, hx⟩)) rfl hb hg2⟩
  · go_enter Try.func5, Try.ntmps5
    go_wp2_with (first
      | (go_at_call 12; refine (mk2 a b _).mono ?_; rintro e w1 ⟨x, rfl, hx, hb⟩)
      | (refine wpList_store_blk rfl 30 (.tmp 6) (.tmp 22) rfl w.heap.size (opnd _) rfl rfl 30 (opnd .nilIface) (HBK.out hb) Try.size30 rfl (IsConj.one (.inr (.inr (.inl ⟨rfl, hx⟩)))) ?_; intro w2 h2 hg2))
    exact bodyPost_ret (results_cell_row rfl _ _ w.heap.size 30 (opnd _) (0, 0) _ rfl h2 Try.underlying30 rfl Try.size30) rfl ⟨_, rfl, conj_up (.inr (.inr (.inl ⟨rfl, hx⟩))) rfl hb hg2⟩
  · go_enter Try.func5, Try.ntmps5
    go_wp2_with (first
      | (go_at_call 13; refine (mk3 a b _).mono ?_; rintro e w1 ⟨x, rfl, hx, hb⟩)
      | (refine wpList_store_blk rfl 30 (.tmp 6) (.tmp 27) rfl w.heap.size (opnd _) rfl rfl 30 (opnd .nilIface) (HBK.out hb) Try.size30 rfl (IsConj.one (.inr (.inr (.inr (.inl ⟨rfl, hx⟩))))) ?_; intro w2 h2 hg2))
    exact bodyPost_ret (results_cell_row rfl _ _ w.heap.size 30 (opnd _) (0, 0) _ rfl h2 Try.underlying30 rfl Try.size30) rfl ⟨_, rfl, conj_up (.inr (.inr (.inr (.inl ⟨rfl, hx⟩)))) rfl hb hg2⟩
  · go_enter Try.func5, Try.ntmps5
    go_wp2_with (first
      | (go_at_call 14; refine (mk4 a b _).mono ?_; rintro e w1 ⟨x, rfl, hx, hb⟩)
      | (refine wpList_store_blk rfl 30 (.tmp 6) (.tmp 30) rfl w.heap.size (opnd _) rfl rfl 30 (opnd .nilIface) (HBK.out hb) Try.size30 rfl (IsConj.one (.inr (.inr (.inr (.inr ⟨rfl, hx⟩))))) ?_; intro w2 h2 hg2))
    exact bodyPost_ret (results_cell_row rfl _ _ w.heap.size 30 (opnd _) (0, 0) _ rfl h2 Try.underlying30 rfl Try.size30) rfl ⟨_, rfl, conj_up (.inr (.inr (.inr (.inr ⟨rfl, hx⟩)))) rfl hb hg2⟩
end Go.Proofs.Qxb6614485a
