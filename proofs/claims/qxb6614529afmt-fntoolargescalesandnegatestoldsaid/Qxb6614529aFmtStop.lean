/- The closed facts for a walk over the stopped fmt.Sprintf (function 13). -/
import Derived.Test.Qxb6614529aFmtCards
import Derived.Stop.CallBack
import Derived.Stop.IfaceNil
import GoSem.ClaimData
import Derived.WalkKit
import Derived.WalkSpells
import Derived.WalkLawsBesides
import Derived.Outline
import Derived.Stop.Texts
import Derived.Stop.FmtTextKit
import Derived.Stop.FmtTextWidths
import Derived.Stop.JoinedTold
import Derived.Lib.ItoaLen
namespace Go.Proofs.Qxb6614529aFmt
open Go.RowKit Go.Extern.Stop Go.Stop Go.Extern Go.Kit
theorem Tryf.call13 (args : Array Value) (w : World) : (callFunc 13 args).run Tryf.prog w = ((FmtStop.sprintf #[9, 50] #[9] args).run Tryf.prog w).andThen fun v w' => .ok (.value v) w' :=
  run_callFunc_extern Tryf.func13 (by kernel_rfl) (by kernel_rfl) (by kernel_rfl) (by kernel_rfl) args w
theorem Tryf.guard (name : String) (w : World) : (FmtStop.guard name).run Tryf.prog w = .ok () w := by kernel_rfl
def Tryf.shape3 : List UInt8 := [5, 3, 0, 0, 0, 0, 0, 0, 0, 105, 110, 116]
theorem Tryf.op3_100 (name : String) (x : Int) (w : World) : (FmtStop.operand name false 100 false (.iface 3 (.int .i64 x))).run Tryf.prog w = .ok (Tryf.shape3, Go.Extern.Stop.digits 8 (x % 2 ^ 64).toNat) w := by kernel_rfl
theorem Tryf.fmt0 : FmtStop.printed? ⟨#[116, 104, 101, 32, 114, 101, 113, 117, 101, 115, 116, 32, 119, 111, 117, 108, 100, 32, 104, 111, 108, 100, 32, 37, 100, 32, 98, 121, 116, 101, 115, 44, 32, 109, 111, 114, 101, 32, 116, 104, 97, 110, 32, 116, 104, 101, 32, 37, 100, 32, 77, 105, 66, 32, 116, 104, 101, 32, 110, 111, 100, 101, 32, 107, 101, 101, 112, 115, 32, 102, 111, 114, 32, 97, 108, 108, 32, 116, 104, 101, 32, 114, 101, 113, 117, 101, 115, 116, 115, 32, 119, 97, 105, 116, 105, 110, 103, 58, 32, 97, 32, 116, 114, 97, 110, 115, 97, 99, 116, 105, 111, 110, 32, 116, 104, 97, 116, 32, 110, 97, 109, 101, 115, 32, 102, 101, 119, 101, 114, 32, 112, 97, 114, 116, 105, 99, 105, 112, 97, 110, 116, 115, 32, 111, 114, 32, 107, 101, 121, 115, 32, 102, 105, 116, 115]⟩ 2 = some [(0, 100, false), (1, 100, false)] := by kernel_rfl
theorem Tryf.fmt0r (w : World) : (FmtDoors.printed ⟨#[116, 104, 101, 32, 114, 101, 113, 117, 101, 115, 116, 32, 119, 111, 117, 108, 100, 32, 104, 111, 108, 100, 32, 37, 100, 32, 98, 121, 116, 101, 115, 44, 32, 109, 111, 114, 101, 32, 116, 104, 97, 110, 32, 116, 104, 101, 32, 37, 100, 32, 77, 105, 66, 32, 116, 104, 101, 32, 110, 111, 100, 101, 32, 107, 101, 101, 112, 115, 32, 102, 111, 114, 32, 97, 108, 108, 32, 116, 104, 101, 32, 114, 101, 113, 117, 101, 115, 116, 115, 32, 119, 97, 105, 116, 105, 110, 103, 58, 32, 97, 32, 116, 114, 97, 110, 115, 97, 99, 116, 105, 111, 110, 32, 116, 104, 97, 116, 32, 110, 97, 109, 101, 115, 32, 102, 101, 119, 101, 114, 32, 112, 97, 114, 116, 105, 99, 105, 112, 97, 110, 116, 115, 32, 111, 114, 32, 107, 101, 121, 115, 32, 102, 105, 116, 115]⟩ 2).run Tryf.prog w = .ok [(0, 100, false), (1, 100, false)] w := by kernel_rfl
attribute [local go_sem] Tryf.call13 Tryf.guard Tryf.op3_100 Tryf.fmt0 Tryf.fmt0r
def headL : List UInt8 := [116, 104, 101, 32, 114, 101, 113, 117, 101, 115, 116, 32, 119, 111, 117, 108, 100, 32, 104, 111, 108, 100, 32]
def midL : List UInt8 := [32, 98, 121, 116, 101, 115, 44, 32, 109, 111, 114, 101, 32, 116, 104, 97, 110, 32, 116, 104, 101, 32]
def endL : List UInt8 := [32, 77, 105, 66, 32, 116, 104, 101, 32, 110, 111, 100, 101, 32, 107, 101, 101, 112, 115, 32, 102, 111, 114, 32, 97, 108, 108, 32, 116, 104, 101, 32, 114, 101, 113, 117, 101, 115, 116, 115, 32, 119, 97, 105, 116, 105, 110, 103, 58, 32, 97, 32, 116, 114, 97, 110, 115, 97, 99, 116, 105, 111, 110, 32, 116, 104, 97, 116, 32, 110, 97, 109, 101, 115, 32, 102, 101, 119, 101, 114, 32, 112, 97, 114, 116, 105, 99, 105, 112, 97, 110, 116, 115, 32, 111, 114, 32, 107, 101, 121, 115, 32, 102, 105, 116, 115]
def tailL : List UInt8 := [32, 98, 121, 116, 101, 115, 44, 32, 109, 111, 114, 101, 32, 116, 104, 97, 110, 32, 116, 104, 101, 32, 54, 52, 32, 77, 105, 66, 32, 116, 104, 101, 32, 110, 111, 100, 101, 32, 107, 101, 101, 112, 115, 32, 102, 111, 114, 32, 97, 108, 108, 32, 116, 104, 101, 32, 114, 101, 113, 117, 101, 115, 116, 115, 32, 119, 97, 105, 116, 105, 110, 103, 58, 32, 97, 32, 116, 114, 97, 110, 115, 97, 99, 116, 105, 111, 110, 32, 116, 104, 97, 116, 32, 110, 97, 109, 101, 115, 32, 102, 101, 119, 101, 114, 32, 112, 97, 114, 116, 105, 99, 105, 112, 97, 110, 116, 115, 32, 111, 114, 32, 107, 101, 121, 115, 32, 102, 105, 116, 115]
/-- what fmt is asked -/
def reading (n : Int) : List (List UInt8) := [[116, 104, 101, 32, 114, 101, 113, 117, 101, 115, 116, 32, 119, 111, 117, 108, 100, 32, 104, 111, 108, 100, 32, 37, 100, 32, 98, 121, 116, 101, 115, 44, 32, 109, 111, 114, 101, 32, 116, 104, 97, 110, 32, 116, 104, 101, 32, 37, 100, 32, 77, 105, 66, 32, 116, 104, 101, 32, 110, 111, 100, 101, 32, 107, 101, 101, 112, 115, 32, 102, 111, 114, 32, 97, 108, 108, 32, 116, 104, 101, 32, 114, 101, 113, 117, 101, 115, 116, 115, 32, 119, 97, 105, 116, 105, 110, 103, 58, 32, 97, 32, 116, 114, 97, 110, 115, 97, 99, 116, 105, 111, 110, 32, 116, 104, 97, 116, 32, 110, 97, 109, 101, 115, 32, 102, 101, 119, 101, 114, 32, 112, 97, 114, 116, 105, 99, 105, 112, 97, 110, 116, 115, 32, 111, 114, 32, 107, 101, 121, 115, 32, 102, 105, 116, 115], Tryf.shape3, digits 8 (n % 18446744073709551616).toNat, Tryf.shape3, digits 8 64]
/-- the refusal's text -/
def textL (n : Int) : List UInt8 := headL ++ Lib.itoa n ++ tailL
set_option maxRecDepth 100000 in
theorem f_all (F : Interp) (n : Int) (w : World) (hF : F.answers w.tape) :
    Calls Tryf.prog 9 #[.int .i64 n] w fun e w' => e = .returned (.string (FmtStop.textOf (F "fmt.Sprintf" (reading n) 0))) ∧
      w' = (w.alloc (Obj.cells #[.iface 3 (.int .i64 n), .iface 3 (.int .i64 64)] 20)).drew := by
  have hF' := answers_open hF
  go_enter Tryf.func9, Tryf.ntmps9
  go_wp2
  go_ret
  exact ⟨rfl, rfl⟩
set_option maxRecDepth 100000 in
theorem t_parse : (FmtText.parse [116, 104, 101, 32, 114, 101, 113, 117, 101, 115, 116, 32, 119, 111, 117, 108, 100, 32, 104, 111, 108, 100, 32, 37, 100, 32, 98, 121, 116, 101, 115, 44, 32, 109, 111, 114, 101, 32, 116, 104, 97, 110, 32, 116, 104, 101, 32, 37, 100, 32, 77, 105, 66, 32, 116, 104, 101, 32, 110, 111, 100, 101, 32, 107, 101, 101, 112, 115, 32, 102, 111, 114, 32, 97, 108, 108, 32, 116, 104, 101, 32, 114, 101, 113, 117, 101, 115, 116, 115, 32, 119, 97, 105, 116, 105, 110, 103, 58, 32, 97, 32, 116, 114, 97, 110, 115, 97, 99, 116, 105, 111, 110, 32, 116, 104, 97, 116, 32, 110, 97, 109, 101, 115, 32, 102, 101, 119, 101, 114, 32, 112, 97, 114, 116, 105, 99, 105, 112, 97, 110, 116, 115, 32, 111, 114, 32, 107, 101, 121, 115, 32, 102, 105, 116, 115]).map FmtText.glue = some [.lit [116, 104, 101, 32, 114, 101, 113, 117, 101, 115, 116, 32, 119, 111, 117, 108, 100, 32, 104, 111, 108, 100, 32], .verb {} 100, .lit [32, 98, 121, 116, 101, 115, 44, 32, 109, 111, 114, 101, 32, 116, 104, 97, 110, 32, 116, 104, 101, 32], .verb {} 100, .lit [32, 77, 105, 66, 32, 116, 104, 101, 32, 110, 111, 100, 101, 32, 107, 101, 101, 112, 115, 32, 102, 111, 114, 32, 97, 108, 108, 32, 116, 104, 101, 32, 114, 101, 113, 117, 101, 115, 116, 115, 32, 119, 97, 105, 116, 105, 110, 103, 58, 32, 97, 32, 116, 114, 97, 110, 115, 97, 99, 116, 105, 111, 110, 32, 116, 104, 97, 116, 32, 110, 97, 109, 101, 115, 32, 102, 101, 119, 101, 114, 32, 112, 97, 114, 116, 105, 99, 105, 112, 97, 110, 116, 115, 32, 111, 114, 32, 107, 101, 121, 115, 32, 102, 105, 116, 115]] := by rfl
theorem t_text (n : Int) (hw : (Lit.int .i64 n).wf = true) : FmtText.text "fmt.Sprintf" (reading n) = some (textL n) := by
  have hi := FmtText.operand_int_at (sh := Tryf.shape3) (k := .i64) rfl rfl n hw
  have h64 : (Lit.int .i64 64).wf = true := by decide
  have hj := FmtText.operand_int_at (sh := Tryf.shape3) (k := .i64) rfl rfl 64 h64
  have e64 : digits 8 ((64 : Int) % 18446744073709551616).toNat = digits 8 64 := by rfl
  rw [e64] at hj
  rw [reading, FmtText.text_sprintf_glued t_parse (FmtText.operands_cons hi (FmtText.operands_cons hj FmtText.operands_nil))]
  have e6 : Lib.itoa 64 = [54, 52] := by
    show (if (64 : Int) < 0 then _ else Lib.decDigits (64 : Int).toNat) = _
    rw [if_neg (by omega)]; exact Lib.decDigits_two (i := 64) (by omega) (by omega)
  have hp : FmtText.printArg false {} 100 (.int [105, 110, 116] IntKind.i64.signed 64) = some [54, 52] := by
    have := FmtText.printArg_d false [105, 110, 116] (k := .i64) (x := 64) h64
    rw [e6] at this; exact this
  simp [FmtText.render, FmtText.printArg_d _ _ hw, hp, textL, headL, tailL]
/-- the text as a Go string -/
def txt (n : Int) : ByteArray := ⟨(textL n).toArray⟩
theorem textL_len (n : Int) (hw : (Lit.int .i64 n).wf = true) : (textL n).length ≤ 23 + 21 + 150 := by
  have := FmtText.itoa_length_le hw
  simp [textL, headL, tailL]; omega
theorem told_txt (F : Interp) (n : Int) (hw : (Lit.int .i64 n).wf = true) : FmtStop.textOf (F.told "fmt.Sprintf" (reading n) 0) = txt n := by
  have hl := textL_len n hw
  have ht := told_string F (t_text n hw) (by omega)
  have h2 : (FmtStop.textOf (F.told "fmt.Sprintf" (reading n) 0)).data.toList = textL n := by rw [textOf_list, ht]
  unfold txt
  rw [← h2]
theorem tooLarge_any (F : Interp) (n : Int) (w : World) (hF : F.told.answers w.tape) (hw : (Lit.int .i64 n).wf = true) :
    Calls Tryf.prog 9 #[.int .i64 n] w fun e w' => e = .returned (.string (txt n)) ∧ Below w.heap.size w w' := by
  refine (f_all F.told n w hF).mono ?_
  rintro e w' ⟨rfl, rfl⟩
  rw [told_txt F n hw]
  exact ⟨rfl, ((Below.refl _ _).alloc (Nat.le_refl _) _).drew⟩
theorem zztooLarge_any (F : Interp) (n : Int) (w : World) (hF : F.told.answers w.tape) (hw : (Lit.int .i64 n).wf = true) :
    Calls Tryf.prog 5 #[.int .i64 n] w fun e w' => e = .returned (.string (txt n)) ∧ Below w.heap.size w w' := by
  have H : Hid (Calls Tryf.prog 9 #[.int .i64 n] w fun e w' => e = .returned (.string (txt n)) ∧ Below w.heap.size w w') := tooLarge_any F n w hF hw
  clear hF hw
  go_enter Tryf.func5, Tryf.ntmps5
  go_wp2_with fail
  refine H.out.mono ?_
  rintro e w' ⟨rfl, hb⟩
  go_wp2
  go_ret
  exact ⟨rfl, hb⟩
end Go.Proofs.Qxb6614529aFmt
