/- Errors: what an error of this program's making is; the contracts of errors.New (12) and fmt.Errorf (10). -/
import Derived.Test.Qxb6614691aFmtHex
import Derived.Stop.CallBack
import Derived.Stop.IfaceNil
import Derived.Stop.Texts
import GoSem.ClaimData
namespace Go.Proofs.Qxb6614691aFmt
open Go.RowKit Go.Extern.Stop Go.Stop Go.Extern
theorem Tryf.call14 (args : Array Value) (w : World) : (callFunc 14 args).run Tryf.prog w = ((FmtStop.errorf #[9, 45] #[35] args).run Tryf.prog w).andThen fun v w' => .ok (.value v) w' :=
  run_callFunc_extern Tryf.func14 (by kernel_rfl) (by kernel_rfl) (by kernel_rfl) (by kernel_rfl) args w
theorem Tryf.guard (name : String) (w : World) : (FmtStop.guard name).run Tryf.prog w = .ok () w := by kernel_rfl
def Tryf.shape3 : List UInt8 := [5, 3, 0, 0, 0, 0, 0, 0, 0, 105, 110, 116]
theorem Tryf.op3_100w (name : String) (x : Int) (w : World) : (FmtStop.operand name true 100 false (.iface 3 (.int .i64 x))).run Tryf.prog w = .ok (Tryf.shape3, Go.Extern.Stop.digits 8 (x % 2 ^ 64).toNat) w := by kernel_rfl
theorem Tryf.ptr50 (w : World) : (FmtStop.ptrTo "errors.errorString").run Tryf.prog w = .ok 50 w := by kernel_rfl
theorem Tryf.elem50 (w : World) : (elemOf 50).run Tryf.prog w = .ok 52 w := by kernel_rfl
theorem Tryf.isError50 (w : World) : (FmtDoors.textMethod 50 "Error").run Tryf.prog w = .ok true w := by kernel_rfl
def Tryf.plain50 : List UInt8 := 14 :: FmtStop.pack "*errors.errorString".toUTF8.data.toList
theorem Tryf.opPlain50_119w (name : String) (a : Addr) (s : ByteArray) (w : World) (hc : w.cell? a = some (.string s)) :
    (FmtStop.operand name true 119 false (.iface 50 (.pointer (some a)))).run Tryf.prog w = .ok (Tryf.plain50, s.data.toList) w := by
  have h1 : (typeStr 50).run Tryf.prog w = .ok "*errors.errorString" w := by kernel_rfl
  have d2 : Tryf.t50.desc = .pointer 52 := rfl
  have d3 : Tryf.t52.desc = .named "errors.errorString" 51 := rfl
  simp [FmtStop.operand, h1, d2, d3, run_load, hc, Tryf.plain50]
theorem Tryf.ptr46 (w : World) : (FmtStop.ptrTo "fmt.wrapError").run Tryf.prog w = .ok 46 w := by kernel_rfl
theorem Tryf.elem46 (w : World) : (elemOf 46).run Tryf.prog w = .ok 70 w := by kernel_rfl
theorem Tryf.isError46 (w : World) : (FmtDoors.textMethod 46 "Error").run Tryf.prog w = .ok true w := by kernel_rfl
def Tryf.plain46 : List UInt8 := 14 :: FmtStop.pack "*fmt.wrapError".toUTF8.data.toList
theorem Tryf.opPlain46_119w (name : String) (a : Addr) (s : ByteArray) (w : World) (hc : w.cell? a = some (.string s)) :
    (FmtStop.operand name true 119 false (.iface 46 (.pointer (some a)))).run Tryf.prog w = .ok (Tryf.plain46, s.data.toList) w := by
  have h1 : (typeStr 46).run Tryf.prog w = .ok "*fmt.wrapError" w := by kernel_rfl
  have d2 : Tryf.t46.desc = .pointer 70 := rfl
  have d3 : Tryf.t70.desc = .named "fmt.wrapError" 69 := rfl
  simp [FmtStop.operand, h1, d2, d3, run_load, hc, Tryf.plain46]
/-- an error of errors.New's or fmt.Errorf's make, its text in memory -/
def IsErr (lo : Nat) (w : World) (v : Value) : Prop := ∃ (a : Addr) (s : ByteArray), (v = .iface 50 (.pointer (some a)) ∨ v = .iface 46 (.pointer (some a))) ∧ w.cell? a = some (.string s) ∧ a.block < w.heap.size ∧ lo ≤ a.block
theorem IsErr.low {lo lo' : Nat} {w : World} {v : Value} (h : IsErr lo w v) (hl : lo' ≤ lo) : IsErr lo' w v := by
  obtain ⟨a, s, h1, h2, h3, h4⟩ := h
  exact ⟨a, s, h1, h2, h3, Nat.le_trans hl h4⟩
theorem new_any (s : ByteArray) (w : World) :
    Calls Tryf.prog 12 #[.string s] w fun e w' => ∃ v, e = .returned v ∧ IsErr w.heap.size w' v ∧ Below w.heap.size w w' := by
  go_enter Tryf.func12, Tryf.ntmps12
  go_wp2
  go_ret
  refine ⟨_, rfl, ⟨⟨w.heap.size, 0, none⟩, s, Or.inl rfl, by simp, by simp, by simp⟩, (Below.refl _ _).alloc (Nat.le_refl _) _⟩
attribute [local go_sem] Tryf.call14 Tryf.guard Tryf.op3_100w Tryf.ptr50 Tryf.elem50 Tryf.isError50 Tryf.ptr46 Tryf.elem46 Tryf.isError46
theorem errorf_two (f : ByteArray) (b : Nat) (x y : Int) (w : World) (hf : ∀ w, (FmtDoors.printed f 2).run Tryf.prog w = .ok [(0, 100, false), (1, 100, false)] w)
    (c0 : w.cell? ⟨b, 0, none⟩ = some (.iface 3 (.int .i64 x))) (c1 : w.cell? ⟨b, 1, none⟩ = some (.iface 3 (.int .i64 y))) :
    Calls Tryf.prog 10 #[.string f, .slice (some ⟨b, 0, none⟩) 2 2] w fun e w' => ∃ v, e = .returned v ∧ IsErr w.heap.size w' v ∧ Below w.heap.size w w' := by
  go_enter Tryf.func10, Tryf.ntmps10
  go_wp2
  go_ret
  exact ⟨_, rfl, ⟨⟨w.heap.size, 0, none⟩, _, Or.inl rfl, by simp; rfl, by simp, by simp⟩, ((Below.refl _ _).alloc (Nat.le_refl _) _).drew⟩
theorem errorf_one (f : ByteArray) (b : Nat) (x : Int) (w : World) (hf : ∀ w, (FmtDoors.printed f 1).run Tryf.prog w = .ok [(0, 100, false)] w)
    (c0 : w.cell? ⟨b, 0, none⟩ = some (.iface 3 (.int .i64 x))) :
    Calls Tryf.prog 10 #[.string f, .slice (some ⟨b, 0, none⟩) 1 1] w fun e w' => ∃ v, e = .returned v ∧ IsErr w.heap.size w' v ∧ Below w.heap.size w w' := by
  go_enter Tryf.func10, Tryf.ntmps10
  go_wp2
  go_ret
  exact ⟨_, rfl, ⟨⟨w.heap.size, 0, none⟩, _, Or.inl rfl, by simp; rfl, by simp, by simp⟩, ((Below.refl _ _).alloc (Nat.le_refl _) _).drew⟩
theorem errorf_err (f : ByteArray) (b : Nat) (v : Value) (w : World) (hf : ∀ w, (FmtDoors.printed f 1).run Tryf.prog w = .ok [(0, 119, false)] w)
    (c0 : w.cell? ⟨b, 0, none⟩ = some v) {lo : Nat} (hv : IsErr lo w v) :
    Calls Tryf.prog 10 #[.string f, .slice (some ⟨b, 0, none⟩) 1 1] w fun e w' => ∃ v, e = .returned v ∧ IsErr w.heap.size w' v ∧ Below w.heap.size w w' := by
  obtain ⟨a, s, hv, hc, _, _⟩ := hv
  rcases hv with rfl | rfl
  · have hop := Tryf.opPlain50_119w "fmt.errorf" a s w hc
    go_enter Tryf.func10, Tryf.ntmps10
    go_wp2
    go_ret
    exact ⟨_, rfl, ⟨⟨w.heap.size, 0, none⟩, _, Or.inr rfl, by simp; rfl, by simp, by simp⟩, ((Below.refl _ _).alloc (Nat.le_refl _) _).drew⟩
  · have hop := Tryf.opPlain46_119w "fmt.errorf" a s w hc
    go_enter Tryf.func10, Tryf.ntmps10
    go_wp2
    go_ret
    exact ⟨_, rfl, ⟨⟨w.heap.size, 0, none⟩, _, Or.inr rfl, by simp; rfl, by simp, by simp⟩, ((Below.refl _ _).alloc (Nat.le_refl _) _).drew⟩
end Go.Proofs.Qxb6614691aFmt
