/-
  What (*singleClass).Matches answers, as a plain function of the class number and the int. No condition: definitions alone.
-/
import Derived.Test.YtcfhhcjcnafcjaaFmtRows
import Derived.WalkKit
import Derived.ProofKit
import Derived.OpenShut
import Derived.Lib.Hide
import Derived.BigGuardPart
namespace Go.Proofs.YtcfhhcjcnafcjaaFmt
open Go.RowKit
set_option linter.unusedVariables false
set_option linter.unusedSimpArgs false

theorem sg_ret {a b : Bool} (h : a = b) : Ending.returned (.bool a) = .returned (.bool b) := by rw [h]
theorem sg_lo {p : Prop} [Decidable p] {b : Bool} (h : ¬ p) (hb : b = false) : b = decide p := hb.trans (decide_eq_false h).symm
theorem sg_hi {p : Prop} [Decidable p] {b : Bool} (h : p) (hb : b = true) : b = decide p := hb.trans (decide_eq_true h).symm
theorem sg_ulo {p : Prop} [Decidable p] {b : Bool} (h : ¬ p) (hb : b = true) : b = !decide p := by simp [h, hb]
theorem sg_uhi {p : Prop} [Decidable p] {b : Bool} (h : p) (hb : b = false) : b = !decide p := by simp [h, hb]

def cls97 (ch : Int) : Prop := (65 ≤ ch ∧ ch ≤ 90) ∨ (97 ≤ ch ∧ ch ≤ 122)
instance (ch : Int) : Decidable (cls97 ch) := by unfold cls97; exact inferInstance
def cls99 (ch : Int) : Prop := (0 ≤ ch ∧ ch ≤ 31) ∨ ch = 127
instance (ch : Int) : Decidable (cls99 ch) := by unfold cls99; exact inferInstance
def cls100 (ch : Int) : Prop := (48 ≤ ch ∧ ch ≤ 57)
instance (ch : Int) : Decidable (cls100 ch) := by unfold cls100; exact inferInstance
def cls108 (ch : Int) : Prop := (97 ≤ ch ∧ ch ≤ 122)
instance (ch : Int) : Decidable (cls108 ch) := by unfold cls108; exact inferInstance
def cls112 (ch : Int) : Prop := (33 ≤ ch ∧ ch ≤ 47) ∨ (58 ≤ ch ∧ ch ≤ 64) ∨ (91 ≤ ch ∧ ch ≤ 96) ∨ (123 ≤ ch ∧ ch ≤ 126)
instance (ch : Int) : Decidable (cls112 ch) := by unfold cls112; exact inferInstance
def cls115 (ch : Int) : Prop := ch = 9 ∨ ch = 10 ∨ ch = 11 ∨ ch = 12 ∨ ch = 13 ∨ ch = 32
instance (ch : Int) : Decidable (cls115 ch) := by unfold cls115; exact inferInstance
def cls117 (ch : Int) : Prop := (65 ≤ ch ∧ ch ≤ 90)
instance (ch : Int) : Decidable (cls117 ch) := by unfold cls117; exact inferInstance
def cls119 (ch : Int) : Prop := (48 ≤ ch ∧ ch ≤ 57) ∨ (65 ≤ ch ∧ ch ≤ 90) ∨ (97 ≤ ch ∧ ch ≤ 122)
instance (ch : Int) : Decidable (cls119 ch) := by unfold cls119; exact inferInstance
def cls120 (ch : Int) : Prop := (48 ≤ ch ∧ ch ≤ 57) ∨ (65 ≤ ch ∧ ch ≤ 70) ∨ (97 ≤ ch ∧ ch ≤ 102)
instance (ch : Int) : Decidable (cls120 ch) := by unfold cls120; exact inferInstance
def cls122 (ch : Int) : Prop := ch = 0
instance (ch : Int) : Decidable (cls122 ch) := by unfold cls122; exact inferInstance
/-- A lower-case class letter's own set. -/
def lowB (k ch : Int) : Bool :=
  if k = 97 then decide (cls97 ch) else if k = 99 then decide (cls99 ch) else if k = 100 then decide (cls100 ch) else if k = 108 then decide (cls108 ch) else if k = 112 then decide (cls112 ch) else if k = 115 then decide (cls115 ch) else if k = 117 then decide (cls117 ch) else if k = 119 then decide (cls119 ch) else if k = 120 then decide (cls120 ch) else if k = 122 then decide (cls122 ch) else false
def isLow (k : Int) : Bool := decide (k = 97 ∨ k = 99 ∨ k = 100 ∨ k = 108 ∨ k = 112 ∨ k = 115 ∨ k = 117 ∨ k = 119 ∨ k = 120 ∨ k = 122)
/-- What a single class says of an int: a class letter's set, an upper-case one's complement; any other number itself. -/
def singB (cl ch : Int) : Bool := if isLow cl then lowB cl ch else if isLow (cl + 32) then !lowB (cl + 32) ch else decide (ch = cl)


end Go.Proofs.YtcfhhcjcnafcjaaFmt
