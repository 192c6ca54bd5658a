/-
  No cell of these rows narrows 'for every input' (looked for: loops, veiled, ifaces, maps, wideKeys, modest, calm, conditions, laid).
  DERIVED. THE GIVEN ROWS OF THIS SEAT. 3 by the template 'for every input the law returns true; each argument reads behind the call as it read before'; 0 by the template 'total and deterministic' (their statements: YtdfjldbnpmdjcaaTotals.lean).
  GIVEN WITH THE SEED: the statements are not yours to turn. If you find one false, say at which input.
  Laid BY PROGRAM, IN A SANDBOX (cutbox-rows.mjs): the forced cells as the released guide's own fill.sh prints them over the translation f6e86ef5d077140f… (all of the seat's roots in one cut). By AI agents, Wed Nov 11 2026. No macro, syntax, notation, axiom, sorry.
-/
import Derived.Test.YtdfjldbnpmdjcaaChecked
import GoSem.Claim
import GoSem.ClaimJoined
import GoSem.ClaimMapViews
import Derived.JoinedTies
import Derived.KernelRfl
namespace Go.Proofs.Ytdfjldbnpmdjcaa
/- THE CELL 'sum', in the pinned program and in every row, IS THE sha256 OF THE DUMP (.gsa) THAT YtdfjldbnpmdjcaaProg.lean LOADS. Nothing in Lean hashes anything: it is a label: what it is worth is what the hold of that sum in a sandbox is worth. -/
noncomputable def Try.pinned : Pinned := { name := "ytdfjldbnpmdjcaa", sum := "f6e86ef5d077140fd2d858e41f7e7ca71855457a9f7b103e0d472e6924a1a1d4", checked := Try.checked }
namespace Rows
def none {H : Type} : Left H := { results := [], args := [] }

/-- 'n005_83.FnNodeFreshZeroAndIndependentCells': WHATEVER THE INPUT: true; the input reads as it did. -/
def fnNodeFreshZeroAndIndependentCellsSpec : ChangeSpec := { name := "fnNodeFreshZeroAndIndependentCells", fn := fun _ => fun
  | [d1, d2, d3] => { results := [.lit (.bool true)], args := [d1, d2, d3] }
  | _ => none }
def fnNodeFreshZeroAndIndependentCellsRow : OpenClaim := { program := "ytdfjldbnpmdjcaa", sum := "f6e86ef5d077140fd2d858e41f7e7ca71855457a9f7b103e0d472e6924a1a1d4", func := "github.com/yuin/gopher-lua/n005_83.FnNodeFreshZeroAndIndependentCells", spec := "fnNodeFreshZeroAndIndependentCells", apart := false }
def FnNodeFreshZeroAndIndependentCellsSaid : Prop := fnNodeFreshZeroAndIndependentCellsRow.holds Try.pinned (OpenSpec.ofChange fnNodeFreshZeroAndIndependentCellsSpec)

/-- ITS FALSE NEIGHBOUR: 'it returns false'. Refute it at one input. -/
def fnNodeFreshZeroAndIndependentCellsWrong : ChangeSpec := { name := "fnNodeFreshZeroAndIndependentCells", fn := fun _ => fun
  | [d1, d2, d3] => { results := [.lit (.bool false)], args := [d1, d2, d3] }
  | _ => none }
def FnNodeFreshZeroAndIndependentCellsWrongFalsely : Prop := fnNodeFreshZeroAndIndependentCellsRow.holds Try.pinned (OpenSpec.ofChange fnNodeFreshZeroAndIndependentCellsWrong)

/-- 'n005_83.FnNodeSettersCommuteAndIdempotent': WHATEVER THE INPUT: true; the input reads as it did. -/
def fnNodeSettersCommuteAndIdempotentSpec : ChangeSpec := { name := "fnNodeSettersCommuteAndIdempotent", fn := fun _ => fun
  | [d1, d2] => { results := [.lit (.bool true)], args := [d1, d2] }
  | _ => none }
def fnNodeSettersCommuteAndIdempotentRow : OpenClaim := { program := "ytdfjldbnpmdjcaa", sum := "f6e86ef5d077140fd2d858e41f7e7ca71855457a9f7b103e0d472e6924a1a1d4", func := "github.com/yuin/gopher-lua/n005_83.FnNodeSettersCommuteAndIdempotent", spec := "fnNodeSettersCommuteAndIdempotent", apart := false }
def FnNodeSettersCommuteAndIdempotentSaid : Prop := fnNodeSettersCommuteAndIdempotentRow.holds Try.pinned (OpenSpec.ofChange fnNodeSettersCommuteAndIdempotentSpec)

/-- ITS FALSE NEIGHBOUR: 'it returns false'. Refute it at one input. -/
def fnNodeSettersCommuteAndIdempotentWrong : ChangeSpec := { name := "fnNodeSettersCommuteAndIdempotent", fn := fun _ => fun
  | [d1, d2] => { results := [.lit (.bool false)], args := [d1, d2] }
  | _ => none }
def FnNodeSettersCommuteAndIdempotentWrongFalsely : Prop := fnNodeSettersCommuteAndIdempotentRow.holds Try.pinned (OpenSpec.ofChange fnNodeSettersCommuteAndIdempotentWrong)

/-- 'n005_83.FnNodeScriptAgreesWithTwoCellModel': WHATEVER THE INPUT: true; the input reads as it did. -/
def fnNodeScriptAgreesWithTwoCellModelSpec : ChangeSpec := { name := "fnNodeScriptAgreesWithTwoCellModel", fn := fun _ => fun
  | [d1, d2] => { results := [.lit (.bool true)], args := [d1, d2] }
  | _ => none }
def fnNodeScriptAgreesWithTwoCellModelRow : OpenClaim := { program := "ytdfjldbnpmdjcaa", sum := "f6e86ef5d077140fd2d858e41f7e7ca71855457a9f7b103e0d472e6924a1a1d4", func := "github.com/yuin/gopher-lua/n005_83.FnNodeScriptAgreesWithTwoCellModel", spec := "fnNodeScriptAgreesWithTwoCellModel", apart := false }
def FnNodeScriptAgreesWithTwoCellModelSaid : Prop := fnNodeScriptAgreesWithTwoCellModelRow.holds Try.pinned (OpenSpec.ofChange fnNodeScriptAgreesWithTwoCellModelSpec)

/-- ITS FALSE NEIGHBOUR: 'it returns false'. Refute it at one input. -/
def fnNodeScriptAgreesWithTwoCellModelWrong : ChangeSpec := { name := "fnNodeScriptAgreesWithTwoCellModel", fn := fun _ => fun
  | [d1, d2] => { results := [.lit (.bool false)], args := [d1, d2] }
  | _ => none }
def FnNodeScriptAgreesWithTwoCellModelWrongFalsely : Prop := fnNodeScriptAgreesWithTwoCellModelRow.holds Try.pinned (OpenSpec.ofChange fnNodeScriptAgreesWithTwoCellModelWrong)

/- THE SECOND FORM. 'bulk': how many values and letters a reading holds, each counted each time it is reached (what is shared counts as often as it is met; a slice's spare places count too). A statement '..UptoSaid' is the law's where the arguments, and the package variables that the reading takes, are together of bulk at most 1048576: NARROWER than '..Said'. Prove '..Said' where nothing that the law and all that it calls make is longer than what came in: it says more and counts as full. Else prove '..UptoSaid'. A law counts once. -/
mutual
def uptoBulk {H : Type} : DataW H → Nat
  | .lit (.string bytes) => bytes.length + 1
  | .lit _ => 1
  | .nil => 1
  | .ptr d => uptoBulk d + 1
  | .slice elems spare => uptoBulkAll elems + uptoBulkAll spare + 1
  | .agg parts => uptoBulkAll parts + 1
  | .iface _ d => uptoBulk d + 1
  | .map entries => uptoBulkEntries entries + 1
  | .held _ => 1
def uptoBulkAll {H : Type} : List (DataW H) → Nat
  | [] => 0
  | d :: r => uptoBulk d + uptoBulkAll r
def uptoBulkEntries {H : Type} : List (Lit × DataW H) → Nat
  | [] => 0
  | x :: r => uptoBulkEntry x + uptoBulkEntries r
def uptoBulkEntry {H : Type} : Lit × DataW H → Nat
  | (.string bytes, d) => bytes.length + uptoBulk d + 1
  | (_, d) => uptoBulk d + 1
 end
def uptoSmall : (H : Type) → List (DataW H) → Bool := fun _ ds => decide (uptoBulkAll ds ≤ 1048576)
def OpenSpec.upto (s : _root_.Go.ChangeSpec) : _root_.Go.OpenSpec := { _root_.Go.OpenSpec.ofChange s with cond := some uptoSmall }

/-- 'n005_83.FnNodeFreshZeroAndIndependentCells', WHERE WHAT IT READS IS OF BULK AT MOST 1048576: true; the input reads as it did. -/
def fnNodeFreshZeroAndIndependentCellsUptoRow : OpenClaim := { program := "ytdfjldbnpmdjcaa", sum := "f6e86ef5d077140fd2d858e41f7e7ca71855457a9f7b103e0d472e6924a1a1d4", func := "github.com/yuin/gopher-lua/n005_83.FnNodeFreshZeroAndIndependentCells", spec := "fnNodeFreshZeroAndIndependentCells", apart := false, narrowed := true }
def FnNodeFreshZeroAndIndependentCellsUptoSaid : Prop := fnNodeFreshZeroAndIndependentCellsUptoRow.holds Try.pinned (OpenSpec.upto fnNodeFreshZeroAndIndependentCellsSpec)

/-- 'n005_83.FnNodeSettersCommuteAndIdempotent', WHERE WHAT IT READS IS OF BULK AT MOST 1048576: true; the input reads as it did. -/
def fnNodeSettersCommuteAndIdempotentUptoRow : OpenClaim := { program := "ytdfjldbnpmdjcaa", sum := "f6e86ef5d077140fd2d858e41f7e7ca71855457a9f7b103e0d472e6924a1a1d4", func := "github.com/yuin/gopher-lua/n005_83.FnNodeSettersCommuteAndIdempotent", spec := "fnNodeSettersCommuteAndIdempotent", apart := false, narrowed := true }
def FnNodeSettersCommuteAndIdempotentUptoSaid : Prop := fnNodeSettersCommuteAndIdempotentUptoRow.holds Try.pinned (OpenSpec.upto fnNodeSettersCommuteAndIdempotentSpec)

/-- 'n005_83.FnNodeScriptAgreesWithTwoCellModel', WHERE WHAT IT READS IS OF BULK AT MOST 1048576: true; the input reads as it did. -/
def fnNodeScriptAgreesWithTwoCellModelUptoRow : OpenClaim := { program := "ytdfjldbnpmdjcaa", sum := "f6e86ef5d077140fd2d858e41f7e7ca71855457a9f7b103e0d472e6924a1a1d4", func := "github.com/yuin/gopher-lua/n005_83.FnNodeScriptAgreesWithTwoCellModel", spec := "fnNodeScriptAgreesWithTwoCellModel", apart := false, narrowed := true }
def FnNodeScriptAgreesWithTwoCellModelUptoSaid : Prop := fnNodeScriptAgreesWithTwoCellModelUptoRow.holds Try.pinned (OpenSpec.upto fnNodeScriptAgreesWithTwoCellModelSpec)

end Rows
end Go.Proofs.Ytdfjldbnpmdjcaa
