/-
  No cell of these rows narrows 'for every input' (looked for: loops, veiled, ifaces, maps, wideKeys, modest, calm, conditions, laid).
  DERIVED. THE GIVEN ROWS OF THIS SEAT. 4 by the template 'for every input the law returns true; each argument reads behind the call as it read before'; 0 by the template 'total and deterministic' (their statements: YtankjgbcpdodgaaFmtTotals.lean).
  GIVEN WITH THE SEED: the statements are not yours to turn. If you find one false, say at which input.
  Laid BY PROGRAM, IN A SANDBOX (cutbox-rows.mjs): the forced cells as the released guide's own fill.sh prints them over the translation a4001c56d125b591… (all of the seat's roots in one cut). By AI agents, Wed Nov 11 2026. No macro, syntax, notation, axiom, sorry.
-/
import Derived.Test.YtankjgbcpdodgaaFmtChecked
import GoSem.Claim
import GoSem.ClaimJoined
import GoSem.ClaimMapViews
import Derived.JoinedTies
import Derived.KernelRfl
namespace Go.Proofs.YtankjgbcpdodgaaFmt
/- THE CELL 'sum', in the pinned program and in every row, IS THE sha256 OF THE DUMP (.gsa) THAT YtankjgbcpdodgaaFmtProg.lean LOADS. Nothing in Lean hashes anything: it is a label: what it is worth is what the hold of that sum in a sandbox is worth. -/
noncomputable def Tryf.pinned : Pinned := { name := "ytankjgbcpdodgaafmt", sum := "a4001c56d125b5917f4aea9b67392e19aed10df40a60b34f40338dd5ad32051b", checked := Tryf.checked }
namespace Rows
def none {H : Type} : Left H := { results := [], args := [] }

/-- 'n005_108.FnRecursiveVMTailAnchoredLiteral': WHATEVER THE INPUT: true; the input reads as it did. -/
def fnRecursiveVMTailAnchoredLiteralSpec : ChangeSpec := { name := "fnRecursiveVMTailAnchoredLiteral", fn := fun _ => fun
  | [d1, d2, d3] => { results := [.lit (.bool true)], args := [d1, d2, d3] }
  | _ => none }
def fnRecursiveVMTailAnchoredLiteralRow : OpenClaim := { program := "ytankjgbcpdodgaafmt", sum := "a4001c56d125b5917f4aea9b67392e19aed10df40a60b34f40338dd5ad32051b", func := "github.com/yuin/gopher-lua/n005_108.FnRecursiveVMTailAnchoredLiteral", spec := "fnRecursiveVMTailAnchoredLiteral", stops := ["fmt.Sprintf, its operands' methods called"], inPlace := ["fmt.Sprintf"], unfollowed := true, recurses := true, apart := false }
/-- NO THEOREM (fmt's text is open here; it may be false): for the released tool's asking of the row's closed facts alone. THE STATEMENT IS 'FnRecursiveVMTailAnchoredLiteralToldSaid' (YtankjgbcpdodgaaFmtCards.lean). -/
def FnRecursiveVMTailAnchoredLiteralFormAsk : Prop := fnRecursiveVMTailAnchoredLiteralRow.holds Tryf.pinned (OpenSpec.ofChange fnRecursiveVMTailAnchoredLiteralSpec)

/-- ITS FALSE NEIGHBOUR: 'it returns false'. Refute it at one input. -/
def fnRecursiveVMTailAnchoredLiteralWrong : ChangeSpec := { name := "fnRecursiveVMTailAnchoredLiteral", fn := fun _ => fun
  | [d1, d2, d3] => { results := [.lit (.bool false)], args := [d1, d2, d3] }
  | _ => none }
def FnRecursiveVMTailAnchoredLiteralWrongFormAsk : Prop := fnRecursiveVMTailAnchoredLiteralRow.holds Tryf.pinned (OpenSpec.ofChange fnRecursiveVMTailAnchoredLiteralWrong)

/-- 'n005_108.FnRecursiveVMLiteralPrefixAt': WHATEVER THE INPUT: true; the input reads as it did. -/
def fnRecursiveVMLiteralPrefixAtSpec : ChangeSpec := { name := "fnRecursiveVMLiteralPrefixAt", fn := fun _ => fun
  | [d1, d2, d3] => { results := [.lit (.bool true)], args := [d1, d2, d3] }
  | _ => none }
def fnRecursiveVMLiteralPrefixAtRow : OpenClaim := { program := "ytankjgbcpdodgaafmt", sum := "a4001c56d125b5917f4aea9b67392e19aed10df40a60b34f40338dd5ad32051b", func := "github.com/yuin/gopher-lua/n005_108.FnRecursiveVMLiteralPrefixAt", spec := "fnRecursiveVMLiteralPrefixAt", stops := ["fmt.Sprintf, its operands' methods called"], inPlace := ["fmt.Sprintf"], unfollowed := true, recurses := true, apart := false }
/-- NO THEOREM (fmt's text is open here; it may be false): for the released tool's asking of the row's closed facts alone. THE STATEMENT IS 'FnRecursiveVMLiteralPrefixAtToldSaid' (YtankjgbcpdodgaaFmtCards.lean). -/
def FnRecursiveVMLiteralPrefixAtFormAsk : Prop := fnRecursiveVMLiteralPrefixAtRow.holds Tryf.pinned (OpenSpec.ofChange fnRecursiveVMLiteralPrefixAtSpec)

/-- ITS FALSE NEIGHBOUR: 'it returns false'. Refute it at one input. -/
def fnRecursiveVMLiteralPrefixAtWrong : ChangeSpec := { name := "fnRecursiveVMLiteralPrefixAt", fn := fun _ => fun
  | [d1, d2, d3] => { results := [.lit (.bool false)], args := [d1, d2, d3] }
  | _ => none }
def FnRecursiveVMLiteralPrefixAtWrongFormAsk : Prop := fnRecursiveVMLiteralPrefixAtRow.holds Tryf.pinned (OpenSpec.ofChange fnRecursiveVMLiteralPrefixAtWrong)

/-- 'n005_108.FnFindLiteralAgreesWithNaiveScan': WHATEVER THE INPUT: true; the input reads as it did. -/
def fnFindLiteralAgreesWithNaiveScanSpec : ChangeSpec := { name := "fnFindLiteralAgreesWithNaiveScan", fn := fun _ => fun
  | [d1, d2, d3, d4] => { results := [.lit (.bool true)], args := [d1, d2, d3, d4] }
  | _ => none }
def fnFindLiteralAgreesWithNaiveScanRow : OpenClaim := { program := "ytankjgbcpdodgaafmt", sum := "a4001c56d125b5917f4aea9b67392e19aed10df40a60b34f40338dd5ad32051b", func := "github.com/yuin/gopher-lua/n005_108.FnFindLiteralAgreesWithNaiveScan", spec := "fnFindLiteralAgreesWithNaiveScan", stops := ["fmt.Sprintf, its operands' methods called"], inPlace := ["fmt.Sprintf"], unfollowed := true, recurses := true, apart := false }
/-- NO THEOREM (fmt's text is open here; it may be false): for the released tool's asking of the row's closed facts alone. THE STATEMENT IS 'FnFindLiteralAgreesWithNaiveScanToldSaid' (YtankjgbcpdodgaaFmtCards.lean). -/
def FnFindLiteralAgreesWithNaiveScanFormAsk : Prop := fnFindLiteralAgreesWithNaiveScanRow.holds Tryf.pinned (OpenSpec.ofChange fnFindLiteralAgreesWithNaiveScanSpec)

/-- ITS FALSE NEIGHBOUR: 'it returns false'. Refute it at one input. -/
def fnFindLiteralAgreesWithNaiveScanWrong : ChangeSpec := { name := "fnFindLiteralAgreesWithNaiveScan", fn := fun _ => fun
  | [d1, d2, d3, d4] => { results := [.lit (.bool false)], args := [d1, d2, d3, d4] }
  | _ => none }
def FnFindLiteralAgreesWithNaiveScanWrongFormAsk : Prop := fnFindLiteralAgreesWithNaiveScanRow.holds Tryf.pinned (OpenSpec.ofChange fnFindLiteralAgreesWithNaiveScanWrong)

/-- 'n005_108.FnFindDigitRunsAreMaximal': WHATEVER THE INPUT: true; the input reads as it did. -/
def fnFindDigitRunsAreMaximalSpec : ChangeSpec := { name := "fnFindDigitRunsAreMaximal", fn := fun _ => fun
  | [d1, d2, d3] => { results := [.lit (.bool true)], args := [d1, d2, d3] }
  | _ => none }
def fnFindDigitRunsAreMaximalRow : OpenClaim := { program := "ytankjgbcpdodgaafmt", sum := "a4001c56d125b5917f4aea9b67392e19aed10df40a60b34f40338dd5ad32051b", func := "github.com/yuin/gopher-lua/n005_108.FnFindDigitRunsAreMaximal", spec := "fnFindDigitRunsAreMaximal", stops := ["fmt.Sprintf, its operands' methods called"], inPlace := ["fmt.Sprintf"], unfollowed := true, recurses := true, apart := false }
/-- NO THEOREM (fmt's text is open here; it may be false): for the released tool's asking of the row's closed facts alone. THE STATEMENT IS 'FnFindDigitRunsAreMaximalToldSaid' (YtankjgbcpdodgaaFmtCards.lean). -/
def FnFindDigitRunsAreMaximalFormAsk : Prop := fnFindDigitRunsAreMaximalRow.holds Tryf.pinned (OpenSpec.ofChange fnFindDigitRunsAreMaximalSpec)

/-- ITS FALSE NEIGHBOUR: 'it returns false'. Refute it at one input. -/
def fnFindDigitRunsAreMaximalWrong : ChangeSpec := { name := "fnFindDigitRunsAreMaximal", fn := fun _ => fun
  | [d1, d2, d3] => { results := [.lit (.bool false)], args := [d1, d2, d3] }
  | _ => none }
def FnFindDigitRunsAreMaximalWrongFormAsk : Prop := fnFindDigitRunsAreMaximalRow.holds Tryf.pinned (OpenSpec.ofChange fnFindDigitRunsAreMaximalWrong)

end Rows
end Go.Proofs.YtankjgbcpdodgaaFmt
