/-
  No cell of these rows narrows 'for every input' (looked for: loops, veiled, ifaces, maps, wideKeys, modest, calm, conditions, laid).
  DERIVED. THE GIVEN ROWS OF THIS SEAT. 7 by the template 'for every input the law returns true; each argument reads behind the call as it read before'; 0 by the template 'total and deterministic' (their statements: YtjhhnkfjidgooaaTotals.lean).
  GIVEN WITH THE SEED: the statements are not yours to turn. If you find one false, say at which input.
  Laid BY PROGRAM, IN A SANDBOX (cutbox-rows.mjs): the forced cells as the released guide's own fill.sh prints them over the translation e10f05ee8898c2ca… (all of the seat's roots in one cut). By AI agents, Wed Nov 11 2026. No macro, syntax, notation, axiom, sorry.
-/
import Derived.Test.YtjhhnkfjidgooaaChecked
import GoSem.Claim
import GoSem.ClaimJoined
import GoSem.ClaimMapViews
import Derived.JoinedTies
import Derived.KernelRfl
namespace Go.Proofs.Ytjhhnkfjidgooaa
/- THE CELL 'sum', in the pinned program and in every row, IS THE sha256 OF THE DUMP (.gsa) THAT YtjhhnkfjidgooaaProg.lean LOADS. Nothing in Lean hashes anything: it is a label: what it is worth is what the hold of that sum in a sandbox is worth. -/
noncomputable def Try.pinned : Pinned := { name := "ytjhhnkfjidgooaa", sum := "e10f05ee8898c2ca1b1f8b0b8e6425be781ba01751181609da2d35d7c6132b42", checked := Try.checked }
namespace Rows
def none {H : Type} : Left H := { results := [], args := [] }

/-- 'n005_91.FnCurrentPosAfterKNexts': WHATEVER THE INPUT: true; the input reads as it did. -/
def fnCurrentPosAfterKNextsSpec : ChangeSpec := { name := "fnCurrentPosAfterKNexts", fn := fun _ => fun
  | [d1, d2] => { results := [.lit (.bool true)], args := [d1, d2] }
  | _ => none }
def fnCurrentPosAfterKNextsRow : OpenClaim := { program := "ytjhhnkfjidgooaa", sum := "e10f05ee8898c2ca1b1f8b0b8e6425be781ba01751181609da2d35d7c6132b42", func := "github.com/yuin/gopher-lua/n005_91.FnCurrentPosAfterKNexts", spec := "fnCurrentPosAfterKNexts", apart := false }
def FnCurrentPosAfterKNextsSaid : Prop := fnCurrentPosAfterKNextsRow.holds Try.pinned (OpenSpec.ofChange fnCurrentPosAfterKNextsSpec)

/-- ITS FALSE NEIGHBOUR: 'it returns false'. Refute it at one input. -/
def fnCurrentPosAfterKNextsWrong : ChangeSpec := { name := "fnCurrentPosAfterKNexts", fn := fun _ => fun
  | [d1, d2] => { results := [.lit (.bool false)], args := [d1, d2] }
  | _ => none }
def FnCurrentPosAfterKNextsWrongFalsely : Prop := fnCurrentPosAfterKNextsRow.holds Try.pinned (OpenSpec.ofChange fnCurrentPosAfterKNextsWrong)

/-- 'n005_91.FnLatestSaveWins': WHATEVER THE INPUT: true; the input reads as it did. -/
def fnLatestSaveWinsSpec : ChangeSpec := { name := "fnLatestSaveWins", fn := fun _ => fun
  | [d1, d2, d3, d4] => { results := [.lit (.bool true)], args := [d1, d2, d3, d4] }
  | _ => none }
def fnLatestSaveWinsRow : OpenClaim := { program := "ytjhhnkfjidgooaa", sum := "e10f05ee8898c2ca1b1f8b0b8e6425be781ba01751181609da2d35d7c6132b42", func := "github.com/yuin/gopher-lua/n005_91.FnLatestSaveWins", spec := "fnLatestSaveWins", apart := false }
def FnLatestSaveWinsSaid : Prop := fnLatestSaveWinsRow.holds Try.pinned (OpenSpec.ofChange fnLatestSaveWinsSpec)

/-- ITS FALSE NEIGHBOUR: 'it returns false'. Refute it at one input. -/
def fnLatestSaveWinsWrong : ChangeSpec := { name := "fnLatestSaveWins", fn := fun _ => fun
  | [d1, d2, d3, d4] => { results := [.lit (.bool false)], args := [d1, d2, d3, d4] }
  | _ => none }
def FnLatestSaveWinsWrongFalsely : Prop := fnLatestSaveWinsRow.holds Try.pinned (OpenSpec.ofChange fnLatestSaveWinsWrong)

/-- 'n005_91.FnRestoreWithoutSaveRewindsToStart': WHATEVER THE INPUT: true; the input reads as it did. -/
def fnRestoreWithoutSaveRewindsToStartSpec : ChangeSpec := { name := "fnRestoreWithoutSaveRewindsToStart", fn := fun _ => fun
  | [d1, d2] => { results := [.lit (.bool true)], args := [d1, d2] }
  | _ => none }
def fnRestoreWithoutSaveRewindsToStartRow : OpenClaim := { program := "ytjhhnkfjidgooaa", sum := "e10f05ee8898c2ca1b1f8b0b8e6425be781ba01751181609da2d35d7c6132b42", func := "github.com/yuin/gopher-lua/n005_91.FnRestoreWithoutSaveRewindsToStart", spec := "fnRestoreWithoutSaveRewindsToStart", apart := false }
def FnRestoreWithoutSaveRewindsToStartSaid : Prop := fnRestoreWithoutSaveRewindsToStartRow.holds Try.pinned (OpenSpec.ofChange fnRestoreWithoutSaveRewindsToStartSpec)

/-- ITS FALSE NEIGHBOUR: 'it returns false'. Refute it at one input. -/
def fnRestoreWithoutSaveRewindsToStartWrong : ChangeSpec := { name := "fnRestoreWithoutSaveRewindsToStart", fn := fun _ => fun
  | [d1, d2] => { results := [.lit (.bool false)], args := [d1, d2] }
  | _ => none }
def FnRestoreWithoutSaveRewindsToStartWrongFalsely : Prop := fnRestoreWithoutSaveRewindsToStartRow.holds Try.pinned (OpenSpec.ofChange fnRestoreWithoutSaveRewindsToStartWrong)

/-- 'n005_91.FnLengthCountsBytesBeforeEOS': WHATEVER THE INPUT: true; the input reads as it did. -/
def fnLengthCountsBytesBeforeEOSSpec : ChangeSpec := { name := "fnLengthCountsBytesBeforeEOS", fn := fun _ => fun
  | [d] => { results := [.lit (.bool true)], args := [d] }
  | _ => none }
def fnLengthCountsBytesBeforeEOSRow : OpenClaim := { program := "ytjhhnkfjidgooaa", sum := "e10f05ee8898c2ca1b1f8b0b8e6425be781ba01751181609da2d35d7c6132b42", func := "github.com/yuin/gopher-lua/n005_91.FnLengthCountsBytesBeforeEOS", spec := "fnLengthCountsBytesBeforeEOS", apart := false }
def FnLengthCountsBytesBeforeEOSSaid : Prop := fnLengthCountsBytesBeforeEOSRow.holds Try.pinned (OpenSpec.ofChange fnLengthCountsBytesBeforeEOSSpec)

/-- ITS FALSE NEIGHBOUR: 'it returns false'. Refute it at one input. -/
def fnLengthCountsBytesBeforeEOSWrong : ChangeSpec := { name := "fnLengthCountsBytesBeforeEOS", fn := fun _ => fun
  | [d] => { results := [.lit (.bool false)], args := [d] }
  | _ => none }
def FnLengthCountsBytesBeforeEOSWrongFalsely : Prop := fnLengthCountsBytesBeforeEOSRow.holds Try.pinned (OpenSpec.ofChange fnLengthCountsBytesBeforeEOSWrong)

/-- 'n005_91.FnPeekKeepsCurrentPos': WHATEVER THE INPUT: true; the input reads as it did. -/
def fnPeekKeepsCurrentPosSpec : ChangeSpec := { name := "fnPeekKeepsCurrentPos", fn := fun _ => fun
  | [d1, d2] => { results := [.lit (.bool true)], args := [d1, d2] }
  | _ => none }
def fnPeekKeepsCurrentPosRow : OpenClaim := { program := "ytjhhnkfjidgooaa", sum := "e10f05ee8898c2ca1b1f8b0b8e6425be781ba01751181609da2d35d7c6132b42", func := "github.com/yuin/gopher-lua/n005_91.FnPeekKeepsCurrentPos", spec := "fnPeekKeepsCurrentPos", apart := false }
def FnPeekKeepsCurrentPosSaid : Prop := fnPeekKeepsCurrentPosRow.holds Try.pinned (OpenSpec.ofChange fnPeekKeepsCurrentPosSpec)

/-- ITS FALSE NEIGHBOUR: 'it returns false'. Refute it at one input. -/
def fnPeekKeepsCurrentPosWrong : ChangeSpec := { name := "fnPeekKeepsCurrentPos", fn := fun _ => fun
  | [d1, d2] => { results := [.lit (.bool false)], args := [d1, d2] }
  | _ => none }
def FnPeekKeepsCurrentPosWrongFalsely : Prop := fnPeekKeepsCurrentPosRow.holds Try.pinned (OpenSpec.ofChange fnPeekKeepsCurrentPosWrong)

/-- 'n005_91.FnRestoreRewindsToSave': WHATEVER THE INPUT: true; the input reads as it did. -/
def fnRestoreRewindsToSaveSpec : ChangeSpec := { name := "fnRestoreRewindsToSave", fn := fun _ => fun
  | [d1, d2, d3] => { results := [.lit (.bool true)], args := [d1, d2, d3] }
  | _ => none }
def fnRestoreRewindsToSaveRow : OpenClaim := { program := "ytjhhnkfjidgooaa", sum := "e10f05ee8898c2ca1b1f8b0b8e6425be781ba01751181609da2d35d7c6132b42", func := "github.com/yuin/gopher-lua/n005_91.FnRestoreRewindsToSave", spec := "fnRestoreRewindsToSave", apart := false }
def FnRestoreRewindsToSaveSaid : Prop := fnRestoreRewindsToSaveRow.holds Try.pinned (OpenSpec.ofChange fnRestoreRewindsToSaveSpec)

/-- ITS FALSE NEIGHBOUR: 'it returns false'. Refute it at one input. -/
def fnRestoreRewindsToSaveWrong : ChangeSpec := { name := "fnRestoreRewindsToSave", fn := fun _ => fun
  | [d1, d2, d3] => { results := [.lit (.bool false)], args := [d1, d2, d3] }
  | _ => none }
def FnRestoreRewindsToSaveWrongFalsely : Prop := fnRestoreRewindsToSaveRow.holds Try.pinned (OpenSpec.ofChange fnRestoreRewindsToSaveWrong)

/-- 'n005_91.FnLengthAndPosInvariantUnderScript': WHATEVER THE INPUT: true; the input reads as it did. -/
def fnLengthAndPosInvariantUnderScriptSpec : ChangeSpec := { name := "fnLengthAndPosInvariantUnderScript", fn := fun _ => fun
  | [d1, d2] => { results := [.lit (.bool true)], args := [d1, d2] }
  | _ => none }
def fnLengthAndPosInvariantUnderScriptRow : OpenClaim := { program := "ytjhhnkfjidgooaa", sum := "e10f05ee8898c2ca1b1f8b0b8e6425be781ba01751181609da2d35d7c6132b42", func := "github.com/yuin/gopher-lua/n005_91.FnLengthAndPosInvariantUnderScript", spec := "fnLengthAndPosInvariantUnderScript", apart := false }
def FnLengthAndPosInvariantUnderScriptSaid : Prop := fnLengthAndPosInvariantUnderScriptRow.holds Try.pinned (OpenSpec.ofChange fnLengthAndPosInvariantUnderScriptSpec)

/-- ITS FALSE NEIGHBOUR: 'it returns false'. Refute it at one input. -/
def fnLengthAndPosInvariantUnderScriptWrong : ChangeSpec := { name := "fnLengthAndPosInvariantUnderScript", fn := fun _ => fun
  | [d1, d2] => { results := [.lit (.bool false)], args := [d1, d2] }
  | _ => none }
def FnLengthAndPosInvariantUnderScriptWrongFalsely : Prop := fnLengthAndPosInvariantUnderScriptRow.holds Try.pinned (OpenSpec.ofChange fnLengthAndPosInvariantUnderScriptWrong)

/- THE SECOND FORM. 'bulk': how many values and letters a reading holds, each counted each time it is reached (what is shared counts as often as it is met; a slice's spare places count too). A statement '..UptoSaid' is the law's where the arguments, and the package variables that the reading takes, are together of bulk at most 1048576: NARROWER than '..Said'. Prove '..Said' where nothing that the law and all that it calls make is longer than what came in: it says more and counts as full. Else prove '..UptoSaid'. A law counts once. -/
mutual
def uptoBulk {H : Type} : DataW H → Nat
  | .lit (.string bytes) => bytes.length + 1
  | .lit _ => 1
  | .nil => 1
  | .ptr d => uptoBulk d + 1
  | .slice elems spare => uptoBulkAll elems + uptoBulkAll spare + 1
  | .agg parts => uptoBulkAll parts + 1
  | .iface _ d => uptoBulk d + 1
  | .map entries => uptoBulkEntries entries + 1
  | .held _ => 1
def uptoBulkAll {H : Type} : List (DataW H) → Nat
  | [] => 0
  | d :: r => uptoBulk d + uptoBulkAll r
def uptoBulkEntries {H : Type} : List (Lit × DataW H) → Nat
  | [] => 0
  | x :: r => uptoBulkEntry x + uptoBulkEntries r
def uptoBulkEntry {H : Type} : Lit × DataW H → Nat
  | (.string bytes, d) => bytes.length + uptoBulk d + 1
  | (_, d) => uptoBulk d + 1
 end
def uptoSmall : (H : Type) → List (DataW H) → Bool := fun _ ds => decide (uptoBulkAll ds ≤ 1048576)
def OpenSpec.upto (s : _root_.Go.ChangeSpec) : _root_.Go.OpenSpec := { _root_.Go.OpenSpec.ofChange s with cond := some uptoSmall }

/-- 'n005_91.FnCurrentPosAfterKNexts', WHERE WHAT IT READS IS OF BULK AT MOST 1048576: true; the input reads as it did. -/
def fnCurrentPosAfterKNextsUptoRow : OpenClaim := { program := "ytjhhnkfjidgooaa", sum := "e10f05ee8898c2ca1b1f8b0b8e6425be781ba01751181609da2d35d7c6132b42", func := "github.com/yuin/gopher-lua/n005_91.FnCurrentPosAfterKNexts", spec := "fnCurrentPosAfterKNexts", apart := false, narrowed := true }
def FnCurrentPosAfterKNextsUptoSaid : Prop := fnCurrentPosAfterKNextsUptoRow.holds Try.pinned (OpenSpec.upto fnCurrentPosAfterKNextsSpec)

/-- 'n005_91.FnLatestSaveWins', WHERE WHAT IT READS IS OF BULK AT MOST 1048576: true; the input reads as it did. -/
def fnLatestSaveWinsUptoRow : OpenClaim := { program := "ytjhhnkfjidgooaa", sum := "e10f05ee8898c2ca1b1f8b0b8e6425be781ba01751181609da2d35d7c6132b42", func := "github.com/yuin/gopher-lua/n005_91.FnLatestSaveWins", spec := "fnLatestSaveWins", apart := false, narrowed := true }
def FnLatestSaveWinsUptoSaid : Prop := fnLatestSaveWinsUptoRow.holds Try.pinned (OpenSpec.upto fnLatestSaveWinsSpec)

/-- 'n005_91.FnRestoreWithoutSaveRewindsToStart', WHERE WHAT IT READS IS OF BULK AT MOST 1048576: true; the input reads as it did. -/
def fnRestoreWithoutSaveRewindsToStartUptoRow : OpenClaim := { program := "ytjhhnkfjidgooaa", sum := "e10f05ee8898c2ca1b1f8b0b8e6425be781ba01751181609da2d35d7c6132b42", func := "github.com/yuin/gopher-lua/n005_91.FnRestoreWithoutSaveRewindsToStart", spec := "fnRestoreWithoutSaveRewindsToStart", apart := false, narrowed := true }
def FnRestoreWithoutSaveRewindsToStartUptoSaid : Prop := fnRestoreWithoutSaveRewindsToStartUptoRow.holds Try.pinned (OpenSpec.upto fnRestoreWithoutSaveRewindsToStartSpec)

/-- 'n005_91.FnLengthCountsBytesBeforeEOS', WHERE WHAT IT READS IS OF BULK AT MOST 1048576: true; the input reads as it did. -/
def fnLengthCountsBytesBeforeEOSUptoRow : OpenClaim := { program := "ytjhhnkfjidgooaa", sum := "e10f05ee8898c2ca1b1f8b0b8e6425be781ba01751181609da2d35d7c6132b42", func := "github.com/yuin/gopher-lua/n005_91.FnLengthCountsBytesBeforeEOS", spec := "fnLengthCountsBytesBeforeEOS", apart := false, narrowed := true }
def FnLengthCountsBytesBeforeEOSUptoSaid : Prop := fnLengthCountsBytesBeforeEOSUptoRow.holds Try.pinned (OpenSpec.upto fnLengthCountsBytesBeforeEOSSpec)

/-- 'n005_91.FnPeekKeepsCurrentPos', WHERE WHAT IT READS IS OF BULK AT MOST 1048576: true; the input reads as it did. -/
def fnPeekKeepsCurrentPosUptoRow : OpenClaim := { program := "ytjhhnkfjidgooaa", sum := "e10f05ee8898c2ca1b1f8b0b8e6425be781ba01751181609da2d35d7c6132b42", func := "github.com/yuin/gopher-lua/n005_91.FnPeekKeepsCurrentPos", spec := "fnPeekKeepsCurrentPos", apart := false, narrowed := true }
def FnPeekKeepsCurrentPosUptoSaid : Prop := fnPeekKeepsCurrentPosUptoRow.holds Try.pinned (OpenSpec.upto fnPeekKeepsCurrentPosSpec)

/-- 'n005_91.FnRestoreRewindsToSave', WHERE WHAT IT READS IS OF BULK AT MOST 1048576: true; the input reads as it did. -/
def fnRestoreRewindsToSaveUptoRow : OpenClaim := { program := "ytjhhnkfjidgooaa", sum := "e10f05ee8898c2ca1b1f8b0b8e6425be781ba01751181609da2d35d7c6132b42", func := "github.com/yuin/gopher-lua/n005_91.FnRestoreRewindsToSave", spec := "fnRestoreRewindsToSave", apart := false, narrowed := true }
def FnRestoreRewindsToSaveUptoSaid : Prop := fnRestoreRewindsToSaveUptoRow.holds Try.pinned (OpenSpec.upto fnRestoreRewindsToSaveSpec)

/-- 'n005_91.FnLengthAndPosInvariantUnderScript', WHERE WHAT IT READS IS OF BULK AT MOST 1048576: true; the input reads as it did. -/
def fnLengthAndPosInvariantUnderScriptUptoRow : OpenClaim := { program := "ytjhhnkfjidgooaa", sum := "e10f05ee8898c2ca1b1f8b0b8e6425be781ba01751181609da2d35d7c6132b42", func := "github.com/yuin/gopher-lua/n005_91.FnLengthAndPosInvariantUnderScript", spec := "fnLengthAndPosInvariantUnderScript", apart := false, narrowed := true }
def FnLengthAndPosInvariantUnderScriptUptoSaid : Prop := fnLengthAndPosInvariantUnderScriptUptoRow.holds Try.pinned (OpenSpec.upto fnLengthAndPosInvariantUnderScriptSpec)

end Rows
end Go.Proofs.Ytjhhnkfjidgooaa
