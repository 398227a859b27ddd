/- subjectField (12) and ZZSubjectField (9) where there is no sub field: strings.Join (19), fmt.Errorf (18). -/
import Derived.Test.Qxb6614485aFmtSub
import Derived.Test.Qxb6614485aFmtJoinLay
import Derived.Stop.CallBack
import Derived.Stop.IfaceNil
import Derived.Stop.Texts
import GoSem.ClaimData
namespace Go.Proofs.Qxb6614485aFmt
open Go.RowKit Go.Extern.Stop Go.Stop Go.Extern
theorem Tryf.call33 (args : Array Value) (w : World) : (callFunc 33 args).run Tryf.prog w = ((FmtStop.errorf #[9, 88] #[31] args).run Tryf.prog w).andThen fun v w' => .ok (.value v) w' :=
  run_callFunc_extern Tryf.func33 (by kernel_rfl) (by kernel_rfl) (by kernel_rfl) (by kernel_rfl) args w
theorem Tryf.guard (name : String) (w : World) : (FmtStop.guard name).run Tryf.prog w = .ok () w := by kernel_rfl
def Tryf.shape9 : List UInt8 := [12, 6, 0, 0, 0, 0, 0, 0, 0, 115, 116, 114, 105, 110, 103]
theorem Tryf.op9_115w (name : String) (x : ByteArray) (w : World) : (FmtStop.operand name true 115 false (.iface 9 (.string x))).run Tryf.prog w = .ok (Tryf.shape9, FmtStop.pack x.data.toList) w := by kernel_rfl
theorem Tryf.ptr106 (w : World) : (FmtStop.ptrTo "errors.errorString").run Tryf.prog w = .ok 106 w := by kernel_rfl
theorem Tryf.elem106 (w : World) : (elemOf 106).run Tryf.prog w = .ok 108 w := by kernel_rfl
theorem Tryf.isError106 (w : World) : (FmtDoors.textMethod 106 "Error").run Tryf.prog w = .ok true w := by kernel_rfl
theorem Tryf.fmtr (w : World) : (FmtDoors.printed ⟨#[112, 32, 61, 32, 37, 115, 32, 104, 97, 115, 32, 110, 111, 32, 115, 117, 98, 32, 102, 105, 101, 108, 100, 32, 116, 111, 32, 103, 105, 118, 101, 32, 97, 32, 114, 117, 108, 101, 39, 115, 32, 115, 117, 98, 106, 101, 99, 116]⟩ 1).run Tryf.prog w = .ok [(0, 115, false)] w := by kernel_rfl
attribute [local go_sem] Tryf.call33 Tryf.guard Tryf.op9_115w Tryf.ptr106 Tryf.elem106 Tryf.isError106 Tryf.fmtr
set_option maxHeartbeats 1000000 in
theorem errorf_one (b : Nat) (x : ByteArray) (w : World) (c0 : w.cell? ⟨b, 0, none⟩ = some (.iface 9 (.string x))) :
    Calls Tryf.prog 18 #[.string ⟨#[112, 32, 61, 32, 37, 115, 32, 104, 97, 115, 32, 110, 111, 32, 115, 117, 98, 32, 102, 105, 101, 108, 100, 32, 116, 111, 32, 103, 105, 118, 101, 32, 97, 32, 114, 117, 108, 101, 39, 115, 32, 115, 117, 98, 106, 101, 99, 116]⟩, .slice (some ⟨b, 0, none⟩) 1 1] w fun e w' => ∃ a, e = .returned (.iface 106 (.pointer (some a))) ∧ Below w.heap.size w w' := by
  go_enter Tryf.func18, Tryf.ntmps18
  go_wp2
  go_ret
  exact ⟨_, rfl, ((Below.refl _ _).alloc (Nat.le_refl _) _).drew⟩
/-- a row whose capacity is no less than its length -/
def RowC (w : World) (v : Value) (ss : List ByteArray) : Prop := RowAt w v ss ∧ ∃ a c, v = .slice a ss.length c ∧ ss.length ≤ c
theorem RowC.keep {w w' : World} {v : Value} {ss : List ByteArray} (h : RowC w v ss) (hb : Below w.heap.size w w') : RowC w' v ss := ⟨h.1.keep hb, h.2⟩
theorem el_get (ss : List ByteArray) (j : Nat) (x : ByteArray) (h : ss[j]? = some x) : x = el ss j := by simp [el, List.getD, h]
/-- strings.Join (19) gives some string -/
theorem join_some (v : Value) (ss : List ByteArray) (w : World) (h : RowC w v ss) (hl : ss.length ≤ 2000000) (hj : (Lib.join (ss.map (·.data.toList)) [44, 32]).length ≤ 140737488355328) :
    Calls Tryf.prog 19 #[v, .string ⟨#[44, 32]⟩] w fun e w' => ∃ s, e = .returned (.string s) ∧ Below w.heap.size w w' := by
  obtain ⟨⟨a, c, rfl, h⟩, a', c', e, hc⟩ := h
  simp only [Value.slice.injEq, true_and] at e
  obtain ⟨rfl, rfl⟩ := e
  rcases h with h | ⟨g, o, rfl, hg, hcell⟩
  · rw [h]
    exact (Tryf.strings_Join_none a c ⟨#[44, 32]⟩ w).mono fun e w' ⟨he, hw⟩ => ⟨_, he, hw ▸ Below.refl _ _⟩
  · refine (Tryf.strings_Join g o c ss ⟨#[44, 32]⟩ w (fun j x hx => ?_) hg (by omega) hc hj).mono fun e w' ⟨he, hw⟩ => ⟨_, he, hw⟩
    rw [hcell j (List.getElem?_eq_some_iff.1 hx).1, el_get ss j x hx]
set_option maxHeartbeats 2000000 in
set_option maxRecDepth 100000 in
theorem sub_no (w : World) (E Mo Po mT mR : Nat) (vF vR : Value) (sub rc : Int) (ss : List ByteArray) (h : Enf w E Mo Po mT mR vF vR sub rc) (hs : sub < 0) (hv : RowC w vF ss) (hl : ss.length ≤ 2000000) (hj : (Lib.join (ss.map (·.data.toList)) [44, 32]).length ≤ 140737488355328) :
    Calls Tryf.prog 12 #[.pointer (some ⟨E, 0, none⟩)] w fun e w' => ∃ a, e = .returned (.tuple #[.int .i64 0, .iface 106 (.pointer (some a))]) ∧ Below w.heap.size w w' := by
  obtain ⟨c0, _, _, _, _, _, _, c1, c5, _⟩ := h.cells
  have hlk := run_lookup_one (P := Tryf.prog) w 38 9 22 mT 1 0 vF Tryf.underlying38 Tryf.underlying9 h.mt
  have HJ := hid (join_some vF ss w hv hl hj)
  clear h hv hj
  go_enter Tryf.func12, Tryf.ntmps12
  go_wp2_with (first
    | (go_at_call 19; refine HJ.out.mono ?_; rintro e w2 ⟨s, rfl, hb2⟩; have HB2 := hid hb2; clear hb2)
    | (go_at_call 18; refine (errorf_one w2.heap.size s _ (by simp)).mono ?_; rintro e w3 ⟨a, rfl, hb3⟩; have HB3 := hid hb3; clear hb3))
  go_ret2
  exact ⟨_, rfl, ((HB2.out.alloc HB2.out.size _)).trans (HB3.out.mono (by have := HB2.out.size; simp; omega))⟩
set_option maxHeartbeats 1000000 in
theorem zsub_no (w : World) (E Mo Po mT mR : Nat) (vF vR : Value) (sub rc : Int) (ss : List ByteArray) (h : Enf w E Mo Po mT mR vF vR sub rc) (hs : sub < 0) (hv : RowC w vF ss) (hl : ss.length ≤ 2000000) (hj : (Lib.join (ss.map (·.data.toList)) [44, 32]).length ≤ 140737488355328) :
    Calls Tryf.prog 9 #[.pointer (some ⟨E, 0, none⟩)] w fun e w' => ∃ a, e = .returned (.tuple #[.int .i64 0, .iface 106 (.pointer (some a))]) ∧ Below w.heap.size w w' := by
  have H := hid (sub_no w E Mo Po mT mR vF vR sub rc ss h hs hv hl hj)
  clear h hv hj
  go_enter Tryf.func9, Tryf.ntmps9
  go_wp2_with (go_at_call 12; refine H.out.mono ?_; rintro e w2 ⟨a, rfl, hb2⟩; have HB := hid hb2; clear hb2)
  go_ret2
  exact ⟨_, rfl, HB.out⟩
end Go.Proofs.Qxb6614485aFmt
