/-
  No cell of these rows narrows 'for every input' (looked for: loops, veiled, ifaces, maps, wideKeys, modest, calm, conditions, laid).
  DERIVED. THE GIVEN ROWS OF THIS SEAT. 4 by the template 'for every input the law returns true; each argument reads behind the call as it read before'; 0 by the template 'total and deterministic' (their statements: YtfobgfmejfbanaaTotals.lean).
  GIVEN WITH THE SEED: the statements are not yours to turn. If you find one false, say at which input.
  Laid BY PROGRAM, IN A SANDBOX (cutbox-rows.mjs): the forced cells as the released guide's own fill.sh prints them over the translation e54245f074276cb8… (all of the seat's roots in one cut). By AI agents, Wed Nov 11 2026. No macro, syntax, notation, axiom, sorry.
-/
import Derived.Test.YtfobgfmejfbanaaChecked
import GoSem.Claim
import GoSem.ClaimJoined
import GoSem.ClaimMapViews
import Derived.JoinedTies
import Derived.KernelRfl
namespace Go.Proofs.Ytfobgfmejfbanaa
/- THE CELL 'sum', in the pinned program and in every row, IS THE sha256 OF THE DUMP (.gsa) THAT YtfobgfmejfbanaaProg.lean LOADS. Nothing in Lean hashes anything: it is a label: what it is worth is what the hold of that sum in a sandbox is worth. -/
noncomputable def Try.pinned : Pinned := { name := "ytfobgfmejfbanaa", sum := "e54245f074276cb8f1c6e79a14efc29abfd8194a5cb0d6422c5f26a3f8297d76", checked := Try.checked }
namespace Rows
def none {H : Type} : Left H := { results := [], args := [] }

/-- 'n005_5.FnWordRebuiltFromCaptureAndFlag': WHATEVER THE INPUT: true; the input reads as it did. -/
def fnWordRebuiltFromCaptureAndFlagSpec : ChangeSpec := { name := "fnWordRebuiltFromCaptureAndFlag", fn := fun _ => fun
  | [d] => { results := [.lit (.bool true)], args := [d] }
  | _ => none }
def fnWordRebuiltFromCaptureAndFlagRow : OpenClaim := { program := "ytfobgfmejfbanaa", sum := "e54245f074276cb8f1c6e79a14efc29abfd8194a5cb0d6422c5f26a3f8297d76", func := "github.com/yuin/gopher-lua/n005_5.FnWordRebuiltFromCaptureAndFlag", spec := "fnWordRebuiltFromCaptureAndFlag", apart := false }
def FnWordRebuiltFromCaptureAndFlagSaid : Prop := fnWordRebuiltFromCaptureAndFlagRow.holds Try.pinned (OpenSpec.ofChange fnWordRebuiltFromCaptureAndFlagSpec)

/-- ITS FALSE NEIGHBOUR: 'it returns false'. Refute it at one input. -/
def fnWordRebuiltFromCaptureAndFlagWrong : ChangeSpec := { name := "fnWordRebuiltFromCaptureAndFlag", fn := fun _ => fun
  | [d] => { results := [.lit (.bool false)], args := [d] }
  | _ => none }
def FnWordRebuiltFromCaptureAndFlagWrongFalsely : Prop := fnWordRebuiltFromCaptureAndFlagRow.holds Try.pinned (OpenSpec.ofChange fnWordRebuiltFromCaptureAndFlagWrong)

/-- 'n005_5.FnRestoreUndoesSetCapture': WHATEVER THE INPUT: true; the input reads as it did. -/
def fnRestoreUndoesSetCaptureSpec : ChangeSpec := { name := "fnRestoreUndoesSetCapture", fn := fun _ => fun
  | [d1, d2, d3] => { results := [.lit (.bool true)], args := [d1, d2, d3] }
  | _ => none }
def fnRestoreUndoesSetCaptureRow : OpenClaim := { program := "ytfobgfmejfbanaa", sum := "e54245f074276cb8f1c6e79a14efc29abfd8194a5cb0d6422c5f26a3f8297d76", func := "github.com/yuin/gopher-lua/n005_5.FnRestoreUndoesSetCapture", spec := "fnRestoreUndoesSetCapture", apart := false }
def FnRestoreUndoesSetCaptureSaid : Prop := fnRestoreUndoesSetCaptureRow.holds Try.pinned (OpenSpec.ofChange fnRestoreUndoesSetCaptureSpec)

/-- ITS FALSE NEIGHBOUR: 'it returns false'. Refute it at one input. -/
def fnRestoreUndoesSetCaptureWrong : ChangeSpec := { name := "fnRestoreUndoesSetCapture", fn := fun _ => fun
  | [d1, d2, d3] => { results := [.lit (.bool false)], args := [d1, d2, d3] }
  | _ => none }
def FnRestoreUndoesSetCaptureWrongFalsely : Prop := fnRestoreUndoesSetCaptureRow.holds Try.pinned (OpenSpec.ofChange fnRestoreUndoesSetCaptureWrong)

/-- 'n005_5.FnCaptureLengthGrowsToReach': WHATEVER THE INPUT: true; the input reads as it did. -/
def fnCaptureLengthGrowsToReachSpec : ChangeSpec := { name := "fnCaptureLengthGrowsToReach", fn := fun _ => fun
  | [d1, d2, d3] => { results := [.lit (.bool true)], args := [d1, d2, d3] }
  | _ => none }
def fnCaptureLengthGrowsToReachRow : OpenClaim := { program := "ytfobgfmejfbanaa", sum := "e54245f074276cb8f1c6e79a14efc29abfd8194a5cb0d6422c5f26a3f8297d76", func := "github.com/yuin/gopher-lua/n005_5.FnCaptureLengthGrowsToReach", spec := "fnCaptureLengthGrowsToReach", apart := false }
def FnCaptureLengthGrowsToReachSaid : Prop := fnCaptureLengthGrowsToReachRow.holds Try.pinned (OpenSpec.ofChange fnCaptureLengthGrowsToReachSpec)

/-- ITS FALSE NEIGHBOUR: 'it returns false'. Refute it at one input. -/
def fnCaptureLengthGrowsToReachWrong : ChangeSpec := { name := "fnCaptureLengthGrowsToReach", fn := fun _ => fun
  | [d1, d2, d3] => { results := [.lit (.bool false)], args := [d1, d2, d3] }
  | _ => none }
def FnCaptureLengthGrowsToReachWrongFalsely : Prop := fnCaptureLengthGrowsToReachRow.holds Try.pinned (OpenSpec.ofChange fnCaptureLengthGrowsToReachWrong)

/-- 'n005_5.FnScriptOfCaptureWritesMatchesPairModel': WHATEVER THE INPUT: true; the input reads as it did. -/
def fnScriptOfCaptureWritesMatchesPairModelSpec : ChangeSpec := { name := "fnScriptOfCaptureWritesMatchesPairModel", fn := fun _ => fun
  | [d1, d2, d3] => { results := [.lit (.bool true)], args := [d1, d2, d3] }
  | _ => none }
def fnScriptOfCaptureWritesMatchesPairModelRow : OpenClaim := { program := "ytfobgfmejfbanaa", sum := "e54245f074276cb8f1c6e79a14efc29abfd8194a5cb0d6422c5f26a3f8297d76", func := "github.com/yuin/gopher-lua/n005_5.FnScriptOfCaptureWritesMatchesPairModel", spec := "fnScriptOfCaptureWritesMatchesPairModel", apart := false }
def FnScriptOfCaptureWritesMatchesPairModelSaid : Prop := fnScriptOfCaptureWritesMatchesPairModelRow.holds Try.pinned (OpenSpec.ofChange fnScriptOfCaptureWritesMatchesPairModelSpec)

/-- ITS FALSE NEIGHBOUR: 'it returns false'. Refute it at one input. -/
def fnScriptOfCaptureWritesMatchesPairModelWrong : ChangeSpec := { name := "fnScriptOfCaptureWritesMatchesPairModel", fn := fun _ => fun
  | [d1, d2, d3] => { results := [.lit (.bool false)], args := [d1, d2, d3] }
  | _ => none }
def FnScriptOfCaptureWritesMatchesPairModelWrongFalsely : Prop := fnScriptOfCaptureWritesMatchesPairModelRow.holds Try.pinned (OpenSpec.ofChange fnScriptOfCaptureWritesMatchesPairModelWrong)

/- THE SECOND FORM. 'bulk': how many values and letters a reading holds, each counted each time it is reached (what is shared counts as often as it is met; a slice's spare places count too). A statement '..UptoSaid' is the law's where the arguments, and the package variables that the reading takes, are together of bulk at most 1048576: NARROWER than '..Said'. Prove '..Said' where nothing that the law and all that it calls make is longer than what came in: it says more and counts as full. Else prove '..UptoSaid'. A law counts once. -/
mutual
def uptoBulk {H : Type} : DataW H → Nat
  | .lit (.string bytes) => bytes.length + 1
  | .lit _ => 1
  | .nil => 1
  | .ptr d => uptoBulk d + 1
  | .slice elems spare => uptoBulkAll elems + uptoBulkAll spare + 1
  | .agg parts => uptoBulkAll parts + 1
  | .iface _ d => uptoBulk d + 1
  | .map entries => uptoBulkEntries entries + 1
  | .held _ => 1
def uptoBulkAll {H : Type} : List (DataW H) → Nat
  | [] => 0
  | d :: r => uptoBulk d + uptoBulkAll r
def uptoBulkEntries {H : Type} : List (Lit × DataW H) → Nat
  | [] => 0
  | x :: r => uptoBulkEntry x + uptoBulkEntries r
def uptoBulkEntry {H : Type} : Lit × DataW H → Nat
  | (.string bytes, d) => bytes.length + uptoBulk d + 1
  | (_, d) => uptoBulk d + 1
 end
def uptoSmall : (H : Type) → List (DataW H) → Bool := fun _ ds => decide (uptoBulkAll ds ≤ 1048576)
def OpenSpec.upto (s : _root_.Go.ChangeSpec) : _root_.Go.OpenSpec := { _root_.Go.OpenSpec.ofChange s with cond := some uptoSmall }

/-- 'n005_5.FnWordRebuiltFromCaptureAndFlag', WHERE WHAT IT READS IS OF BULK AT MOST 1048576: true; the input reads as it did. -/
def fnWordRebuiltFromCaptureAndFlagUptoRow : OpenClaim := { program := "ytfobgfmejfbanaa", sum := "e54245f074276cb8f1c6e79a14efc29abfd8194a5cb0d6422c5f26a3f8297d76", func := "github.com/yuin/gopher-lua/n005_5.FnWordRebuiltFromCaptureAndFlag", spec := "fnWordRebuiltFromCaptureAndFlag", apart := false, narrowed := true }
def FnWordRebuiltFromCaptureAndFlagUptoSaid : Prop := fnWordRebuiltFromCaptureAndFlagUptoRow.holds Try.pinned (OpenSpec.upto fnWordRebuiltFromCaptureAndFlagSpec)

/-- 'n005_5.FnRestoreUndoesSetCapture', WHERE WHAT IT READS IS OF BULK AT MOST 1048576: true; the input reads as it did. -/
def fnRestoreUndoesSetCaptureUptoRow : OpenClaim := { program := "ytfobgfmejfbanaa", sum := "e54245f074276cb8f1c6e79a14efc29abfd8194a5cb0d6422c5f26a3f8297d76", func := "github.com/yuin/gopher-lua/n005_5.FnRestoreUndoesSetCapture", spec := "fnRestoreUndoesSetCapture", apart := false, narrowed := true }
def FnRestoreUndoesSetCaptureUptoSaid : Prop := fnRestoreUndoesSetCaptureUptoRow.holds Try.pinned (OpenSpec.upto fnRestoreUndoesSetCaptureSpec)

/-- 'n005_5.FnCaptureLengthGrowsToReach', WHERE WHAT IT READS IS OF BULK AT MOST 1048576: true; the input reads as it did. -/
def fnCaptureLengthGrowsToReachUptoRow : OpenClaim := { program := "ytfobgfmejfbanaa", sum := "e54245f074276cb8f1c6e79a14efc29abfd8194a5cb0d6422c5f26a3f8297d76", func := "github.com/yuin/gopher-lua/n005_5.FnCaptureLengthGrowsToReach", spec := "fnCaptureLengthGrowsToReach", apart := false, narrowed := true }
def FnCaptureLengthGrowsToReachUptoSaid : Prop := fnCaptureLengthGrowsToReachUptoRow.holds Try.pinned (OpenSpec.upto fnCaptureLengthGrowsToReachSpec)

/-- 'n005_5.FnScriptOfCaptureWritesMatchesPairModel', WHERE WHAT IT READS IS OF BULK AT MOST 1048576: true; the input reads as it did. -/
def fnScriptOfCaptureWritesMatchesPairModelUptoRow : OpenClaim := { program := "ytfobgfmejfbanaa", sum := "e54245f074276cb8f1c6e79a14efc29abfd8194a5cb0d6422c5f26a3f8297d76", func := "github.com/yuin/gopher-lua/n005_5.FnScriptOfCaptureWritesMatchesPairModel", spec := "fnScriptOfCaptureWritesMatchesPairModel", apart := false, narrowed := true }
def FnScriptOfCaptureWritesMatchesPairModelUptoSaid : Prop := fnScriptOfCaptureWritesMatchesPairModelUptoRow.holds Try.pinned (OpenSpec.upto fnScriptOfCaptureWritesMatchesPairModelSpec)

end Rows
end Go.Proofs.Ytfobgfmejfbanaa
