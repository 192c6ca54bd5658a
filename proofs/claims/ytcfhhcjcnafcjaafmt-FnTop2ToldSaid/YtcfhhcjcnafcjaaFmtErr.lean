/-
  The contract of newError without arguments. No condition.
-/
import Derived.Test.YtcfhhcjcnafcjaaFmtScan2
namespace Go.Proofs.YtcfhhcjcnafcjaaFmt
open Go.RowKit
set_option linter.unusedVariables false
set_option linter.unusedSimpArgs false

/-- The texts of the parser's errors. -/
def errTxt : Nat → ByteArray
  | 0 => ⟨#[105, 110, 118, 97, 108, 105, 100, 32, 39, 41, 39]⟩
  | 1 => ⟨#[105, 110, 118, 97, 108, 105, 100, 32, 99, 97, 112, 116, 117, 114, 101, 32, 105, 110, 100, 101, 120]⟩
  | 2 => ⟨#[117, 110, 102, 105, 110, 105, 115, 104, 101, 100, 32, 99, 97, 112, 116, 117, 114, 101]⟩
  | _ => ⟨#[117, 110, 101, 120, 112, 101, 99, 116, 101, 100, 32, 69, 79, 83]⟩
/-- An error value raised by the parser. -/
def ErrAt (w' : World) (B : Nat) (p : Int) (m : Nat) (chain : List PanicEntry) : Prop :=
  ∃ g, chain = [{ v := .iface 44 (.pointer (some ⟨g, 0, none⟩)), recovered := false }] ∧ B ≤ g ∧ w'.heap[g]? = some (.cells #[.int .i64 p, .string (errTxt m)] 47 (0, 0))
set_option maxRecDepth 100000 in
theorem newErr_any (p : Int) (s : ByteArray) (w : World) :
    Calls Tryf.prog 27 #[.int .i64 p, .string s, .slice none 0 0] w fun e w' => e = .returned (.pointer (some ⟨w.heap.size, 0, none⟩)) ∧ w' = w.alloc (.cells #[.int .i64 p, .string s] 47) := by
  go_enter Tryf.func27, Tryf.ntmps27
  go_wp2_with fail
  go_ret
  exact ⟨rfl, rfl⟩
end Go.Proofs.YtcfhhcjcnafcjaaFmt
