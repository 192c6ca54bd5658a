/-
  What the class parser makes of the bytes of a pattern, as plain functions of the bytes and a cursor. No condition: definitions and small laws.
-/
import Derived.Test.YtcfhhcjcnafcjaaFmtCls
import Derived.Test.YtcfhhcjcnafcjaaFmtScan
namespace Go.Proofs.YtcfhhcjcnafcjaaFmt
open Go.RowKit
set_option linter.unusedVariables false
set_option linter.unusedSimpArgs false

/-- One element at the cursor c (not at the end): the element, the cursor behind it. -/
def elem (zs : List Int) (c : Nat) : El × Nat :=
  if chr zs c = 37 then (.sgl (chr zs (c + 1)), c + 2) else (.chr (chr zs c), c + 1)
theorem elem_lt (zs : List Int) (c : Nat) : c < (elem zs c).2 ∧ (elem zs c).2 ≤ c + 2 := by
  unfold elem; split <;> simp

/-- The last element made the begin of a range. -/
def rangeUp (acc : List El) (e : El) : List El := acc.dropLast ++ [.rng (acc.getLast?.getD (.chr 0)) e]
/-- The loop of a set's parser: the elements so far, whether a '-' waits. -/
def setLoop (zs : List Int) (c : Nat) (acc : List El) (isr : Bool) : Option (List El × Bool × Nat) :=
  if zs.length ≤ c then none
  else if chr zs c = 93 ∧ acc ≠ [] then some (acc, isr, c + 1)
  else if chr zs c = 45 ∧ acc ≠ [] then setLoop zs (c + 1) acc true
  else setLoop zs (elem zs c).2 (if isr then rangeUp acc (elem zs c).1 else acc ++ [(elem zs c).1]) false
termination_by zs.length - c
decreasing_by
  · omega
  · have := elem_lt zs c; omega

/-- The elements of the set at its end. -/
def setFin (acc : List El) (isr : Bool) : List El := if isr then acc ++ [.chr 45] else acc
def parseSet (zs : List Int) (c : Nat) : Option (Cl × Nat) :=
  if chr zs c = 94 then (setLoop zs (c + 1) [] false).map fun r => (.set true (setFin r.1 r.2.1), r.2.2)
  else (setLoop zs c [] false).map fun r => (.set false (setFin r.1 r.2.1), r.2.2)
/-- The class at the cursor c; none: an error is raised. -/
def parseCls (zs : List Int) (c : Nat) : Option (Cl × Nat) :=
  if zs.length ≤ c then none
  else if chr zs c = 37 then some (.el (.sgl (chr zs (c + 1))), c + 2)
  else if chr zs c = 46 then some (.dot, c + 1)
  else if chr zs c = 91 then parseSet zs (c + 1)
  else some (.el (.chr (chr zs c)), c + 1)

theorem setLoop_lt {zs : List Int} {c : Nat} {acc : List El} {isr : Bool} {r : List El × Bool × Nat} (h : setLoop zs c acc isr = some r) : c < r.2.2 ∧ r.2.2 ≤ zs.length + 1 := by
  fun_induction setLoop zs c acc isr with
  | case1 => simp at h
  | case2 c acc isr h1 h2 => simp only [Option.some.injEq] at h; subst h; exact ⟨Nat.lt_succ_self _, by simp; omega⟩
  | case3 c acc isr h1 h2 h3 ih => have := ih h; omega
  | case4 c acc isr h1 h2 h3 ih => have := ih h; have := elem_lt zs c; omega
theorem parseSet_lt {zs : List Int} {c : Nat} {r : Cl × Nat} (h : parseSet zs c = some r) : c < r.2 ∧ r.2 ≤ zs.length + 1 := by
  unfold parseSet at h
  split at h
  all_goals
    simp only [Option.map_eq_some_iff] at h
    obtain ⟨x, hx, rfl⟩ := h
    have := setLoop_lt hx
    simp only
    omega
theorem parseCls_lt {zs : List Int} {c : Nat} {r : Cl × Nat} (h : parseCls zs c = some r) : c < r.2 ∧ r.2 ≤ zs.length + 1 := by
  unfold parseCls at h
  split at h
  · simp at h
  split at h
  · simp only [Option.some.injEq] at h; subst h; simp; omega
  split at h
  · simp only [Option.some.injEq] at h; subst h; simp; omega
  split at h
  · have := parseSet_lt h; omega
  · simp only [Option.some.injEq] at h; subst h; simp; omega

end Go.Proofs.YtcfhhcjcnafcjaaFmt
