/-
  Closed facts on fmt.Sprintf at the formats that the walks meet, and what each gives, told. Their condition: strings and texts shorter than two to the forty-eighth.
-/
import Derived.Test.YtpadgbghgkcogaaFmtRows
import Derived.Test.YtpadgbghgkcogaaFmtMem
import Derived.Stop.CallBack
import Derived.Stop.IfaceNil
import Derived.Stop.Texts
import Derived.Stop.FmtTextKit
import Derived.Stop.Told
import GoSem.ClaimData
namespace Go.Proofs.YtpadgbghgkcogaaFmt
open Go.Extern.Stop Go.Stop Go.Extern
open Go.RowKit Go.Kit
set_option linter.unusedVariables false
set_option linter.unusedSimpArgs false

@[go_sem] theorem spfCall (args : Array Value) (w : World) : (callFunc 6 args).run Tryf.prog w = ((FmtStop.sprintf #[9, 45] #[9] args).run Tryf.prog w).andThen fun v w' => .ok (.value v) w' :=
  run_callFunc_extern Tryf.func6 (by kernel_rfl) (by kernel_rfl) (by kernel_rfl) (by kernel_rfl) args w
@[go_sem] theorem fmtGuard (name : String) (w : World) : (FmtStop.guard name).run Tryf.prog w = .ok () w := by kernel_rfl
def shapeInt : List UInt8 := [5, 3, 0, 0, 0, 0, 0, 0, 0, 105, 110, 116]
def shapeStr : List UInt8 := [12, 6, 0, 0, 0, 0, 0, 0, 0, 115, 116, 114, 105, 110, 103]
@[go_sem] theorem opStr_118 (name : String) (x : ByteArray) (w : World) : (FmtStop.operand name false 118 false (.iface 9 (.string x))).run Tryf.prog w = .ok (shapeStr, FmtStop.pack x.data.toList) w := by kernel_rfl
@[go_sem] theorem fmt0 : FmtStop.printed? ⟨#[60, 116, 121, 112, 101, 58, 37, 118, 44, 32, 115, 116, 114, 58, 37, 118, 62]⟩ 2 = some [(0, 118, false), (1, 118, false)] := by kernel_rfl
@[go_sem] theorem fmt0r (w : World) : (FmtDoors.printed ⟨#[60, 116, 121, 112, 101, 58, 37, 118, 44, 32, 115, 116, 114, 58, 37, 118, 62]⟩ 2).run Tryf.prog w = .ok [(0, 118, false), (1, 118, false)] w := by kernel_rfl
theorem parse0 : (FmtText.parse [60, 116, 121, 112, 101, 58, 37, 118, 44, 32, 115, 116, 114, 58, 37, 118, 62]).map FmtText.glue = some [.lit [60, 116, 121, 112, 101, 58], .verb {} 118, .lit [44, 32, 115, 116, 114, 58], .verb {} 118, .lit [62]] := by rfl
def read0 (x0 : List UInt8) (x1 : List UInt8) : List (List UInt8) := [[60, 116, 121, 112, 101, 58, 37, 118, 44, 32, 115, 116, 114, 58, 37, 118, 62], shapeStr, FmtStop.pack x0, shapeStr, FmtStop.pack x1]
def text0 (x0 : List UInt8) (x1 : List UInt8) : List UInt8 := [60, 116, 121, 112, 101, 58] ++ x0 ++ [44, 32, 115, 116, 114, 58] ++ x1 ++ [62]
theorem said0 (x0 : List UInt8) (x1 : List UInt8) (h0 : x0.length < 2 ^ 48) (h1 : x1.length < 2 ^ 48) : FmtText.text "fmt.Sprintf" (read0 x0 x1) = some (text0 x0 x1) := by
  have o0 := FmtText.operand_str_at (sh := shapeStr) rfl rfl x0 (by omega)
  have o1 := FmtText.operand_str_at (sh := shapeStr) rfl rfl x1 (by omega)
  rw [read0, FmtText.text_sprintf_glued parse0 (FmtText.operands_cons o0 (FmtText.operands_cons o1 FmtText.operands_nil))]
  simp [FmtText.render, FmtText.printArg_v_str, text0]
theorem told0 (F : Interp) (x0 : List UInt8) (x1 : List UInt8) (h0 : x0.length < 2 ^ 48) (h1 : x1.length < 2 ^ 48) : (FmtStop.textOf (F.told "fmt.Sprintf" (read0 x0 x1) 0)) = ⟨(text0 x0 x1).toArray⟩ := by

  have ht := told_string F (said0 x0 x1 h0 h1) (by simp [text0]; omega)
  rw [← textOf_list] at ht
  exact ByteArray.ext (by rw [← ht])

end Go.Proofs.YtpadgbghgkcogaaFmt
