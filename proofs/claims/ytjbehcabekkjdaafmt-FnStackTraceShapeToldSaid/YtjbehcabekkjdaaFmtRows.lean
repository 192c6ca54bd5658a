/-
  No cell of these rows narrows 'for every input' (looked for: loops, veiled, ifaces, maps, wideKeys, modest, calm, conditions, laid).
  DERIVED. THE GIVEN ROWS OF THIS SEAT. 4 by the template 'for every input the law returns true; each argument reads behind the call as it read before'; 0 by the template 'total and deterministic' (their statements: YtjbehcabekkjdaaFmtTotals.lean).
  GIVEN WITH THE SEED: the statements are not yours to turn. If you find one false, say at which input.
  Laid BY PROGRAM, IN A SANDBOX (cutbox-rows.mjs): the forced cells as the released guide's own fill.sh prints them over the translation c395c680adf39ece… (all of the seat's roots in one cut). By AI agents, Wed Nov 11 2026. No macro, syntax, notation, axiom, sorry.
-/
import Derived.Test.YtjbehcabekkjdaaFmtChecked
import GoSem.Claim
import GoSem.ClaimJoined
import GoSem.ClaimMapViews
import Derived.JoinedTies
import Derived.KernelRfl
namespace Go.Proofs.YtjbehcabekkjdaaFmt
/- THE CELL 'sum', in the pinned program and in every row, IS THE sha256 OF THE DUMP (.gsa) THAT YtjbehcabekkjdaaFmtProg.lean LOADS. Nothing in Lean hashes anything: it is a label: what it is worth is what the hold of that sum in a sandbox is worth. -/
noncomputable def Tryf.pinned : Pinned := { name := "ytjbehcabekkjdaafmt", sum := "c395c680adf39ece680ffaaa28ab39cce0899d839322e5eb9bdc98e19bb0310e", checked := Tryf.checked }
namespace Rows
def none {H : Type} : Left H := { results := [], args := [] }

/-- 'n005_94.FnRawFrameNameLocal': WHATEVER THE INPUT: true; the input reads as it did. -/
def fnRawFrameNameLocalSpec : ChangeSpec := { name := "fnRawFrameNameLocal", fn := fun _ => fun
  | [d1, d2, d3, d4, d5] => { results := [.lit (.bool true)], args := [d1, d2, d3, d4, d5] }
  | _ => none }
def fnRawFrameNameLocalRow : OpenClaim := { program := "ytjbehcabekkjdaafmt", sum := "c395c680adf39ece680ffaaa28ab39cce0899d839322e5eb9bdc98e19bb0310e", func := "github.com/yuin/gopher-lua/n005_94.FnRawFrameNameLocal", spec := "fnRawFrameNameLocal", stops := ["fmt.Sprintf"], inPlace := ["fmt.Sprintf"], apart := false }
/-- NO THEOREM (fmt's text is open here; it may be false): for the released tool's asking of the row's closed facts alone. THE STATEMENT IS 'FnRawFrameNameLocalToldSaid' (YtjbehcabekkjdaaFmtCards.lean). -/
def FnRawFrameNameLocalFormAsk : Prop := fnRawFrameNameLocalRow.holds Tryf.pinned (OpenSpec.ofChange fnRawFrameNameLocalSpec)

/-- ITS FALSE NEIGHBOUR: 'it returns false'. Refute it at one input. -/
def fnRawFrameNameLocalWrong : ChangeSpec := { name := "fnRawFrameNameLocal", fn := fun _ => fun
  | [d1, d2, d3, d4, d5] => { results := [.lit (.bool false)], args := [d1, d2, d3, d4, d5] }
  | _ => none }
def FnRawFrameNameLocalWrongFormAsk : Prop := fnRawFrameNameLocalRow.holds Tryf.pinned (OpenSpec.ofChange fnRawFrameNameLocalWrong)

/-- 'n005_94.FnWhereExact': WHATEVER THE INPUT: true; the input reads as it did. -/
def fnWhereExactSpec : ChangeSpec := { name := "fnWhereExact", fn := fun _ => fun
  | [d1, d2, d3] => { results := [.lit (.bool true)], args := [d1, d2, d3] }
  | _ => none }
def fnWhereExactRow : OpenClaim := { program := "ytjbehcabekkjdaafmt", sum := "c395c680adf39ece680ffaaa28ab39cce0899d839322e5eb9bdc98e19bb0310e", func := "github.com/yuin/gopher-lua/n005_94.FnWhereExact", spec := "fnWhereExact", stops := ["fmt.Sprintf"], inPlace := ["fmt.Sprintf"], unfollowed := true, recurses := true, apart := false }
/-- NO THEOREM (fmt's text is open here; it may be false): for the released tool's asking of the row's closed facts alone. THE STATEMENT IS 'FnWhereExactToldSaid' (YtjbehcabekkjdaaFmtCards.lean). -/
def FnWhereExactFormAsk : Prop := fnWhereExactRow.holds Tryf.pinned (OpenSpec.ofChange fnWhereExactSpec)

/-- ITS FALSE NEIGHBOUR: 'it returns false'. Refute it at one input. -/
def fnWhereExactWrong : ChangeSpec := { name := "fnWhereExact", fn := fun _ => fun
  | [d1, d2, d3] => { results := [.lit (.bool false)], args := [d1, d2, d3] }
  | _ => none }
def FnWhereExactWrongFormAsk : Prop := fnWhereExactRow.holds Tryf.pinned (OpenSpec.ofChange fnWhereExactWrong)

/-- 'n005_94.FnFormattedAgreesWithRaw': WHATEVER THE INPUT: true; the input reads as it did. -/
def fnFormattedAgreesWithRawSpec : ChangeSpec := { name := "fnFormattedAgreesWithRaw", fn := fun _ => fun
  | [d1, d2, d3, d4] => { results := [.lit (.bool true)], args := [d1, d2, d3, d4] }
  | _ => none }
def fnFormattedAgreesWithRawRow : OpenClaim := { program := "ytjbehcabekkjdaafmt", sum := "c395c680adf39ece680ffaaa28ab39cce0899d839322e5eb9bdc98e19bb0310e", func := "github.com/yuin/gopher-lua/n005_94.FnFormattedAgreesWithRaw", spec := "fnFormattedAgreesWithRaw", stops := ["fmt.Sprintf"], inPlace := ["fmt.Sprintf"], apart := false }
/-- NO THEOREM (fmt's text is open here; it may be false): for the released tool's asking of the row's closed facts alone. THE STATEMENT IS 'FnFormattedAgreesWithRawToldSaid' (YtjbehcabekkjdaaFmtCards.lean). -/
def FnFormattedAgreesWithRawFormAsk : Prop := fnFormattedAgreesWithRawRow.holds Tryf.pinned (OpenSpec.ofChange fnFormattedAgreesWithRawSpec)

/-- ITS FALSE NEIGHBOUR: 'it returns false'. Refute it at one input. -/
def fnFormattedAgreesWithRawWrong : ChangeSpec := { name := "fnFormattedAgreesWithRaw", fn := fun _ => fun
  | [d1, d2, d3, d4] => { results := [.lit (.bool false)], args := [d1, d2, d3, d4] }
  | _ => none }
def FnFormattedAgreesWithRawWrongFormAsk : Prop := fnFormattedAgreesWithRawRow.holds Tryf.pinned (OpenSpec.ofChange fnFormattedAgreesWithRawWrong)

/-- 'n005_94.FnStackTraceShape': WHATEVER THE INPUT: true; the input reads as it did. -/
def fnStackTraceShapeSpec : ChangeSpec := { name := "fnStackTraceShape", fn := fun _ => fun
  | [d1, d2, d3, d4, d5] => { results := [.lit (.bool true)], args := [d1, d2, d3, d4, d5] }
  | _ => none }
def fnStackTraceShapeRow : OpenClaim := { program := "ytjbehcabekkjdaafmt", sum := "c395c680adf39ece680ffaaa28ab39cce0899d839322e5eb9bdc98e19bb0310e", func := "github.com/yuin/gopher-lua/n005_94.FnStackTraceShape", spec := "fnStackTraceShape", stops := ["fmt.Sprintf"], inPlace := ["fmt.Sprintf", "internal/abi.NoEscape", "internal/bytealg.MakeNoZero"], unfollowed := true, recurses := true, apart := false }
/-- NO THEOREM (fmt's text is open here; it may be false): for the released tool's asking of the row's closed facts alone. THE STATEMENT IS 'FnStackTraceShapeToldSaid' (YtjbehcabekkjdaaFmtCards.lean). -/
def FnStackTraceShapeFormAsk : Prop := fnStackTraceShapeRow.holds Tryf.pinned (OpenSpec.ofChange fnStackTraceShapeSpec)

/-- ITS FALSE NEIGHBOUR: 'it returns false'. Refute it at one input. -/
def fnStackTraceShapeWrong : ChangeSpec := { name := "fnStackTraceShape", fn := fun _ => fun
  | [d1, d2, d3, d4, d5] => { results := [.lit (.bool false)], args := [d1, d2, d3, d4, d5] }
  | _ => none }
def FnStackTraceShapeWrongFormAsk : Prop := fnStackTraceShapeRow.holds Tryf.pinned (OpenSpec.ofChange fnStackTraceShapeWrong)

end Rows
end Go.Proofs.YtjbehcabekkjdaaFmt
