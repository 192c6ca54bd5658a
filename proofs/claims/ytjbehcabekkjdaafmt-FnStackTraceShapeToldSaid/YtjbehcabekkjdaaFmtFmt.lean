/-
  Closed facts on fmt.Sprintf at the formats that the walks meet, and what each gives, told. Their condition: strings and texts shorter than two to the forty-eighth.
-/
import Derived.Test.YtjbehcabekkjdaaFmtRows
import Derived.Test.YtjbehcabekkjdaaFmtMem
import Derived.Stop.CallBack
import Derived.Stop.IfaceNil
import Derived.Stop.Texts
import Derived.Stop.FmtTextKit
import Derived.Stop.Told
import GoSem.ClaimData
namespace Go.Proofs.YtjbehcabekkjdaaFmt
open Go.Extern.Stop Go.Stop Go.Extern
open Go.RowKit Go.Kit
set_option linter.unusedVariables false
set_option linter.unusedSimpArgs false

@[go_sem] theorem spfCall (args : Array Value) (w : World) : (callFunc 38 args).run Tryf.prog w = ((FmtStop.sprintf #[9, 158] #[9] args).run Tryf.prog w).andThen fun v w' => .ok (.value v) w' :=
  run_callFunc_extern Tryf.func38 (by kernel_rfl) (by kernel_rfl) (by kernel_rfl) (by kernel_rfl) args w
@[go_sem] theorem fmtGuard (name : String) (w : World) : (FmtStop.guard name).run Tryf.prog w = .ok () w := by kernel_rfl
def shapeInt : List UInt8 := [5, 3, 0, 0, 0, 0, 0, 0, 0, 105, 110, 116]
def shapeStr : List UInt8 := [12, 6, 0, 0, 0, 0, 0, 0, 0, 115, 116, 114, 105, 110, 103]
@[go_sem] theorem opInt_118 (name : String) (x : Int) (w : World) : (FmtStop.operand name false 118 false (.iface 3 (.int .i64 x))).run Tryf.prog w = .ok (shapeInt, Go.Extern.Stop.digits 8 (x % 2 ^ 64).toNat) w := by kernel_rfl
@[go_sem] theorem opStr_115 (name : String) (x : ByteArray) (w : World) : (FmtStop.operand name false 115 false (.iface 9 (.string x))).run Tryf.prog w = .ok (shapeStr, FmtStop.pack x.data.toList) w := by kernel_rfl
@[go_sem] theorem opStr_118 (name : String) (x : ByteArray) (w : World) : (FmtStop.operand name false 118 false (.iface 9 (.string x))).run Tryf.prog w = .ok (shapeStr, FmtStop.pack x.data.toList) w := by kernel_rfl
@[go_sem] theorem fmt0 : FmtStop.printed? ⟨#[60, 37, 118, 58, 37, 118, 62]⟩ 2 = some [(0, 118, false), (1, 118, false)] := by kernel_rfl
@[go_sem] theorem fmt0r (w : World) : (FmtDoors.printed ⟨#[60, 37, 118, 58, 37, 118, 62]⟩ 2).run Tryf.prog w = .ok [(0, 118, false), (1, 118, false)] w := by kernel_rfl
theorem parse0 : (FmtText.parse [60, 37, 118, 58, 37, 118, 62]).map FmtText.glue = some [.lit [60], .verb {} 118, .lit [58], .verb {} 118, .lit [62]] := by rfl
def read0 (x0 : List UInt8) (x1 : Int) : List (List UInt8) := [[60, 37, 118, 58, 37, 118, 62], shapeStr, FmtStop.pack x0, shapeInt, digits 8 (x1 % 18446744073709551616).toNat]
def text0 (x0 : List UInt8) (x1 : Int) : List UInt8 := [60] ++ x0 ++ [58] ++ Lib.itoa x1 ++ [62]
theorem said0 (x0 : List UInt8) (x1 : Int) (h0 : x0.length < 2 ^ 48) (h1 : (Lit.int .i64 x1).wf = true) : FmtText.text "fmt.Sprintf" (read0 x0 x1) = some (text0 x0 x1) := by
  have o0 := FmtText.operand_str_at (sh := shapeStr) rfl rfl x0 (by omega)
  have o1 := FmtText.operand_int_at (sh := shapeInt) (k := .i64) rfl rfl x1 h1
  rw [read0, FmtText.text_sprintf_glued parse0 (FmtText.operands_cons o0 (FmtText.operands_cons o1 FmtText.operands_nil))]
  simp [FmtText.render, FmtText.printArg_v _ _ h1, FmtText.printArg_v_str, text0]
theorem told0 (F : Interp) (x0 : List UInt8) (x1 : Int) (h0 : x0.length < 2 ^ 48) (h1 : (Lit.int .i64 x1).wf = true) : (FmtStop.textOf (F.told "fmt.Sprintf" (read0 x0 x1) 0)) = ⟨(text0 x0 x1).toArray⟩ := by
  have l1 := FmtText.itoa_length_le h1
  have ht := told_string F (said0 x0 x1 h0 h1) (by simp [text0]; omega)
  rw [← textOf_list] at ht
  exact ByteArray.ext (by rw [← ht])
@[go_sem] theorem fmt1 : FmtStop.printed? ⟨#[37, 118, 58, 37, 118]⟩ 2 = some [(0, 118, false), (1, 118, false)] := by kernel_rfl
@[go_sem] theorem fmt1r (w : World) : (FmtDoors.printed ⟨#[37, 118, 58, 37, 118]⟩ 2).run Tryf.prog w = .ok [(0, 118, false), (1, 118, false)] w := by kernel_rfl
theorem parse1 : (FmtText.parse [37, 118, 58, 37, 118]).map FmtText.glue = some [.verb {} 118, .lit [58], .verb {} 118] := by rfl
def read1 (x0 : List UInt8) (x1 : List UInt8) : List (List UInt8) := [[37, 118, 58, 37, 118], shapeStr, FmtStop.pack x0, shapeStr, FmtStop.pack x1]
def text1 (x0 : List UInt8) (x1 : List UInt8) : List UInt8 := x0 ++ [58] ++ x1
theorem said1 (x0 : List UInt8) (x1 : List UInt8) (h0 : x0.length < 2 ^ 48) (h1 : x1.length < 2 ^ 48) : FmtText.text "fmt.Sprintf" (read1 x0 x1) = some (text1 x0 x1) := by
  have o0 := FmtText.operand_str_at (sh := shapeStr) rfl rfl x0 (by omega)
  have o1 := FmtText.operand_str_at (sh := shapeStr) rfl rfl x1 (by omega)
  rw [read1, FmtText.text_sprintf_glued parse1 (FmtText.operands_cons o0 (FmtText.operands_cons o1 FmtText.operands_nil))]
  simp [FmtText.render, FmtText.printArg_v_str, text1]
theorem told1 (F : Interp) (x0 : List UInt8) (x1 : List UInt8) (h0 : x0.length < 2 ^ 48) (h1 : x1.length < 2 ^ 48) : (FmtStop.textOf (F.told "fmt.Sprintf" (read1 x0 x1) 0)) = ⟨(text1 x0 x1).toArray⟩ := by

  have ht := told_string F (said1 x0 x1 h0 h1) (by simp [text1]; omega)
  rw [← textOf_list] at ht
  exact ByteArray.ext (by rw [← ht])
@[go_sem] theorem fmt2 : FmtStop.printed? ⟨#[37, 118, 58]⟩ 1 = some [(0, 118, false)] := by kernel_rfl
@[go_sem] theorem fmt2r (w : World) : (FmtDoors.printed ⟨#[37, 118, 58]⟩ 1).run Tryf.prog w = .ok [(0, 118, false)] w := by kernel_rfl
theorem parse2 : (FmtText.parse [37, 118, 58]).map FmtText.glue = some [.verb {} 118, .lit [58]] := by rfl
def read2 (x0 : Int) : List (List UInt8) := [[37, 118, 58], shapeInt, digits 8 (x0 % 18446744073709551616).toNat]
def text2 (x0 : Int) : List UInt8 := Lib.itoa x0 ++ [58]
theorem said2 (x0 : Int) (h0 : (Lit.int .i64 x0).wf = true) : FmtText.text "fmt.Sprintf" (read2 x0) = some (text2 x0) := by
  have o0 := FmtText.operand_int_at (sh := shapeInt) (k := .i64) rfl rfl x0 h0
  rw [read2, FmtText.text_sprintf_glued parse2 (FmtText.operands_cons o0 FmtText.operands_nil)]
  simp [FmtText.render, FmtText.printArg_v _ _ h0, text2]
theorem told2 (F : Interp) (x0 : Int) (h0 : (Lit.int .i64 x0).wf = true) : (FmtStop.textOf (F.told "fmt.Sprintf" (read2 x0) 0)) = ⟨(text2 x0).toArray⟩ := by
  have l0 := FmtText.itoa_length_le h0
  have ht := told_string F (said2 x0 h0) (by simp [text2]; omega)
  rw [← textOf_list] at ht
  exact ByteArray.ext (by rw [← ht])
@[go_sem] theorem fmt3 : FmtStop.printed? ⟨#[102, 117, 110, 99, 116, 105, 111, 110, 32, 39, 37, 115, 39]⟩ 1 = some [(0, 115, false)] := by kernel_rfl
@[go_sem] theorem fmt3r (w : World) : (FmtDoors.printed ⟨#[102, 117, 110, 99, 116, 105, 111, 110, 32, 39, 37, 115, 39]⟩ 1).run Tryf.prog w = .ok [(0, 115, false)] w := by kernel_rfl
theorem parse3 : (FmtText.parse [102, 117, 110, 99, 116, 105, 111, 110, 32, 39, 37, 115, 39]).map FmtText.glue = some [.lit [102, 117, 110, 99, 116, 105, 111, 110, 32, 39], .verb {} 115, .lit [39]] := by rfl
def read3 (x0 : List UInt8) : List (List UInt8) := [[102, 117, 110, 99, 116, 105, 111, 110, 32, 39, 37, 115, 39], shapeStr, FmtStop.pack x0]
def text3 (x0 : List UInt8) : List UInt8 := [102, 117, 110, 99, 116, 105, 111, 110, 32, 39] ++ x0 ++ [39]
theorem said3 (x0 : List UInt8) (h0 : x0.length < 2 ^ 48) : FmtText.text "fmt.Sprintf" (read3 x0) = some (text3 x0) := by
  have o0 := FmtText.operand_str_at (sh := shapeStr) rfl rfl x0 (by omega)
  rw [read3, FmtText.text_sprintf_glued parse3 (FmtText.operands_cons o0 FmtText.operands_nil)]
  simp [FmtText.render, FmtText.printArg_s_str, text3]
theorem told3 (F : Interp) (x0 : List UInt8) (h0 : x0.length < 2 ^ 48) : (FmtStop.textOf (F.told "fmt.Sprintf" (read3 x0) 0)) = ⟨(text3 x0).toArray⟩ := by

  have ht := told_string F (said3 x0 h0) (by simp [text3]; omega)
  rw [← textOf_list] at ht
  exact ByteArray.ext (by rw [← ht])
@[go_sem] theorem fmt4 : FmtStop.printed? ⟨#[102, 117, 110, 99, 116, 105, 111, 110, 32, 37, 115]⟩ 1 = some [(0, 115, false)] := by kernel_rfl
@[go_sem] theorem fmt4r (w : World) : (FmtDoors.printed ⟨#[102, 117, 110, 99, 116, 105, 111, 110, 32, 37, 115]⟩ 1).run Tryf.prog w = .ok [(0, 115, false)] w := by kernel_rfl
theorem parse4 : (FmtText.parse [102, 117, 110, 99, 116, 105, 111, 110, 32, 37, 115]).map FmtText.glue = some [.lit [102, 117, 110, 99, 116, 105, 111, 110, 32], .verb {} 115] := by rfl
def read4 (x0 : List UInt8) : List (List UInt8) := [[102, 117, 110, 99, 116, 105, 111, 110, 32, 37, 115], shapeStr, FmtStop.pack x0]
def text4 (x0 : List UInt8) : List UInt8 := [102, 117, 110, 99, 116, 105, 111, 110, 32] ++ x0
theorem said4 (x0 : List UInt8) (h0 : x0.length < 2 ^ 48) : FmtText.text "fmt.Sprintf" (read4 x0) = some (text4 x0) := by
  have o0 := FmtText.operand_str_at (sh := shapeStr) rfl rfl x0 (by omega)
  rw [read4, FmtText.text_sprintf_glued parse4 (FmtText.operands_cons o0 FmtText.operands_nil)]
  simp [FmtText.render, FmtText.printArg_s_str, text4]
theorem told4 (F : Interp) (x0 : List UInt8) (h0 : x0.length < 2 ^ 48) : (FmtStop.textOf (F.told "fmt.Sprintf" (read4 x0) 0)) = ⟨(text4 x0).toArray⟩ := by

  have ht := told_string F (said4 x0 h0) (by simp [text4]; omega)
  rw [← textOf_list] at ht
  exact ByteArray.ext (by rw [← ht])
@[go_sem] theorem fmt5 : FmtStop.printed? ⟨#[9, 37, 118, 32, 105, 110, 32, 37, 118]⟩ 2 = some [(0, 118, false), (1, 118, false)] := by kernel_rfl
@[go_sem] theorem fmt5r (w : World) : (FmtDoors.printed ⟨#[9, 37, 118, 32, 105, 110, 32, 37, 118]⟩ 2).run Tryf.prog w = .ok [(0, 118, false), (1, 118, false)] w := by kernel_rfl
theorem parse5 : (FmtText.parse [9, 37, 118, 32, 105, 110, 32, 37, 118]).map FmtText.glue = some [.lit [9], .verb {} 118, .lit [32, 105, 110, 32], .verb {} 118] := by rfl
def read5 (x0 : List UInt8) (x1 : List UInt8) : List (List UInt8) := [[9, 37, 118, 32, 105, 110, 32, 37, 118], shapeStr, FmtStop.pack x0, shapeStr, FmtStop.pack x1]
def text5 (x0 : List UInt8) (x1 : List UInt8) : List UInt8 := [9] ++ x0 ++ [32, 105, 110, 32] ++ x1
theorem said5 (x0 : List UInt8) (x1 : List UInt8) (h0 : x0.length < 2 ^ 48) (h1 : x1.length < 2 ^ 48) : FmtText.text "fmt.Sprintf" (read5 x0 x1) = some (text5 x0 x1) := by
  have o0 := FmtText.operand_str_at (sh := shapeStr) rfl rfl x0 (by omega)
  have o1 := FmtText.operand_str_at (sh := shapeStr) rfl rfl x1 (by omega)
  rw [read5, FmtText.text_sprintf_glued parse5 (FmtText.operands_cons o0 (FmtText.operands_cons o1 FmtText.operands_nil))]
  simp [FmtText.render, FmtText.printArg_v_str, text5]
theorem told5 (F : Interp) (x0 : List UInt8) (x1 : List UInt8) (h0 : x0.length < 2 ^ 48) (h1 : x1.length < 2 ^ 48) : (FmtStop.textOf (F.told "fmt.Sprintf" (read5 x0 x1) 0)) = ⟨(text5 x0 x1).toArray⟩ := by

  have ht := told_string F (said5 x0 x1 h0 h1) (by simp [text5]; omega)
  rw [← textOf_list] at ht
  exact ByteArray.ext (by rw [← ht])
@[go_sem] theorem fmt6 : FmtStop.printed? ⟨#[9, 37, 118, 58, 32, 37, 118]⟩ 2 = some [(0, 118, false), (1, 118, false)] := by kernel_rfl
@[go_sem] theorem fmt6r (w : World) : (FmtDoors.printed ⟨#[9, 37, 118, 58, 32, 37, 118]⟩ 2).run Tryf.prog w = .ok [(0, 118, false), (1, 118, false)] w := by kernel_rfl
theorem parse6 : (FmtText.parse [9, 37, 118, 58, 32, 37, 118]).map FmtText.glue = some [.lit [9], .verb {} 118, .lit [58, 32], .verb {} 118] := by rfl
def read6 (x0 : List UInt8) (x1 : List UInt8) : List (List UInt8) := [[9, 37, 118, 58, 32, 37, 118], shapeStr, FmtStop.pack x0, shapeStr, FmtStop.pack x1]
def text6 (x0 : List UInt8) (x1 : List UInt8) : List UInt8 := [9] ++ x0 ++ [58, 32] ++ x1
theorem said6 (x0 : List UInt8) (x1 : List UInt8) (h0 : x0.length < 2 ^ 48) (h1 : x1.length < 2 ^ 48) : FmtText.text "fmt.Sprintf" (read6 x0 x1) = some (text6 x0 x1) := by
  have o0 := FmtText.operand_str_at (sh := shapeStr) rfl rfl x0 (by omega)
  have o1 := FmtText.operand_str_at (sh := shapeStr) rfl rfl x1 (by omega)
  rw [read6, FmtText.text_sprintf_glued parse6 (FmtText.operands_cons o0 (FmtText.operands_cons o1 FmtText.operands_nil))]
  simp [FmtText.render, FmtText.printArg_v_str, text6]
theorem told6 (F : Interp) (x0 : List UInt8) (x1 : List UInt8) (h0 : x0.length < 2 ^ 48) (h1 : x1.length < 2 ^ 48) : (FmtStop.textOf (F.told "fmt.Sprintf" (read6 x0 x1) 0)) = ⟨(text6 x0 x1).toArray⟩ := by

  have ht := told_string F (said6 x0 x1 h0 h1) (by simp [text6]; omega)
  rw [← textOf_list] at ht
  exact ByteArray.ext (by rw [← ht])
@[go_sem] theorem fmt7 : FmtStop.printed? ⟨#[37, 115, 10, 37, 115]⟩ 2 = some [(0, 115, false), (1, 115, false)] := by kernel_rfl
@[go_sem] theorem fmt7r (w : World) : (FmtDoors.printed ⟨#[37, 115, 10, 37, 115]⟩ 2).run Tryf.prog w = .ok [(0, 115, false), (1, 115, false)] w := by kernel_rfl
theorem parse7 : (FmtText.parse [37, 115, 10, 37, 115]).map FmtText.glue = some [.verb {} 115, .lit [10], .verb {} 115] := by rfl
def read7 (x0 : List UInt8) (x1 : List UInt8) : List (List UInt8) := [[37, 115, 10, 37, 115], shapeStr, FmtStop.pack x0, shapeStr, FmtStop.pack x1]
def text7 (x0 : List UInt8) (x1 : List UInt8) : List UInt8 := x0 ++ [10] ++ x1
theorem said7 (x0 : List UInt8) (x1 : List UInt8) (h0 : x0.length < 2 ^ 48) (h1 : x1.length < 2 ^ 48) : FmtText.text "fmt.Sprintf" (read7 x0 x1) = some (text7 x0 x1) := by
  have o0 := FmtText.operand_str_at (sh := shapeStr) rfl rfl x0 (by omega)
  have o1 := FmtText.operand_str_at (sh := shapeStr) rfl rfl x1 (by omega)
  rw [read7, FmtText.text_sprintf_glued parse7 (FmtText.operands_cons o0 (FmtText.operands_cons o1 FmtText.operands_nil))]
  simp [FmtText.render, FmtText.printArg_s_str, text7]
theorem told7 (F : Interp) (x0 : List UInt8) (x1 : List UInt8) (h0 : x0.length < 2 ^ 48) (h1 : x1.length < 2 ^ 48) : (FmtStop.textOf (F.told "fmt.Sprintf" (read7 x0 x1) 0)) = ⟨(text7 x0 x1).toArray⟩ := by

  have ht := told_string F (said7 x0 x1 h0 h1) (by simp [text7]; omega)
  rw [← textOf_list] at ht
  exact ByteArray.ext (by rw [← ht])

end Go.Proofs.YtjbehcabekkjdaaFmt
