/-
  No cell of these rows narrows 'for every input' (looked for: loops, veiled, ifaces, maps, wideKeys, modest, calm, conditions, laid).
  DERIVED. THE GIVEN ROWS OF THIS SEAT. 5 by the template 'for every input the law returns true; each argument reads behind the call as it read before'; 0 by the template 'total and deterministic' (their statements: YtkpnjhnopgbhlaaFmtTotals.lean).
  GIVEN WITH THE SEED: the statements are not yours to turn. If you find one false, say at which input.
  Laid BY PROGRAM, IN A SANDBOX (cutbox-rows.mjs): the forced cells as the released guide's own fill.sh prints them over the translation 211f7ed2f75149d1… (all of the seat's roots in one cut). By AI agents, Wed Nov 11 2026. No macro, syntax, notation, axiom, sorry.
-/
import Derived.Test.YtkpnjhnopgbhlaaFmtChecked
import GoSem.Claim
import GoSem.ClaimJoined
import GoSem.ClaimMapViews
import Derived.JoinedTies
import Derived.KernelRfl
namespace Go.Proofs.YtkpnjhnopgbhlaaFmt
/- THE CELL 'sum', in the pinned program and in every row, IS THE sha256 OF THE DUMP (.gsa) THAT YtkpnjhnopgbhlaaFmtProg.lean LOADS. Nothing in Lean hashes anything: it is a label: what it is worth is what the hold of that sum in a sandbox is worth. -/
noncomputable def Tryf.pinned : Pinned := { name := "ytkpnjhnopgbhlaafmt", sum := "211f7ed2f75149d1697d723b0cdd47a2fba6b4be1d8920bb0d652f61a1faa7cf", checked := Tryf.checked }
namespace Rows
def none {H : Type} : Left H := { results := [], args := [] }

/-- 'n005_33.FnDotMatchesEveryInt': WHATEVER THE INPUT: true; the input reads as it did. -/
def fnDotMatchesEveryIntSpec : ChangeSpec := { name := "fnDotMatchesEveryInt", fn := fun _ => fun
  | [d] => { results := [.lit (.bool true)], args := [d] }
  | _ => none }
def fnDotMatchesEveryIntRow : OpenClaim := { program := "ytkpnjhnopgbhlaafmt", sum := "211f7ed2f75149d1697d723b0cdd47a2fba6b4be1d8920bb0d652f61a1faa7cf", func := "github.com/yuin/gopher-lua/n005_33.FnDotMatchesEveryInt", spec := "fnDotMatchesEveryInt", stops := ["fmt.Sprintf, its operands' methods called"], inPlace := ["fmt.Sprintf"], unfollowed := true, recurses := true, apart := false }
/-- NO THEOREM (fmt's text is open here; it may be false): for the released tool's asking of the row's closed facts alone. THE STATEMENT IS 'FnDotMatchesEveryIntToldSaid' (YtkpnjhnopgbhlaaFmtCards.lean). -/
def FnDotMatchesEveryIntFormAsk : Prop := fnDotMatchesEveryIntRow.holds Tryf.pinned (OpenSpec.ofChange fnDotMatchesEveryIntSpec)

/-- ITS FALSE NEIGHBOUR: 'it returns false'. Refute it at one input. -/
def fnDotMatchesEveryIntWrong : ChangeSpec := { name := "fnDotMatchesEveryInt", fn := fun _ => fun
  | [d] => { results := [.lit (.bool false)], args := [d] }
  | _ => none }
def FnDotMatchesEveryIntWrongFormAsk : Prop := fnDotMatchesEveryIntRow.holds Tryf.pinned (OpenSpec.ofChange fnDotMatchesEveryIntWrong)

/-- 'n005_33.FnCharParsedSingleByteMatchesExactlyItself': WHATEVER THE INPUT: true; the input reads as it did. -/
def fnCharParsedSingleByteMatchesExactlyItselfSpec : ChangeSpec := { name := "fnCharParsedSingleByteMatchesExactlyItself", fn := fun _ => fun
  | [d1, d2] => { results := [.lit (.bool true)], args := [d1, d2] }
  | _ => none }
def fnCharParsedSingleByteMatchesExactlyItselfRow : OpenClaim := { program := "ytkpnjhnopgbhlaafmt", sum := "211f7ed2f75149d1697d723b0cdd47a2fba6b4be1d8920bb0d652f61a1faa7cf", func := "github.com/yuin/gopher-lua/n005_33.FnCharParsedSingleByteMatchesExactlyItself", spec := "fnCharParsedSingleByteMatchesExactlyItself", stops := ["fmt.Sprintf, its operands' methods called"], inPlace := ["fmt.Sprintf"], unfollowed := true, recurses := true, apart := false }
/-- NO THEOREM (fmt's text is open here; it may be false): for the released tool's asking of the row's closed facts alone. THE STATEMENT IS 'FnCharParsedSingleByteMatchesExactlyItselfToldSaid' (YtkpnjhnopgbhlaaFmtCards.lean). -/
def FnCharParsedSingleByteMatchesExactlyItselfFormAsk : Prop := fnCharParsedSingleByteMatchesExactlyItselfRow.holds Tryf.pinned (OpenSpec.ofChange fnCharParsedSingleByteMatchesExactlyItselfSpec)

/-- ITS FALSE NEIGHBOUR: 'it returns false'. Refute it at one input. -/
def fnCharParsedSingleByteMatchesExactlyItselfWrong : ChangeSpec := { name := "fnCharParsedSingleByteMatchesExactlyItself", fn := fun _ => fun
  | [d1, d2] => { results := [.lit (.bool false)], args := [d1, d2] }
  | _ => none }
def FnCharParsedSingleByteMatchesExactlyItselfWrongFormAsk : Prop := fnCharParsedSingleByteMatchesExactlyItselfRow.holds Tryf.pinned (OpenSpec.ofChange fnCharParsedSingleByteMatchesExactlyItselfWrong)

/-- 'n005_33.FnRangeParsedBracketSpec': WHATEVER THE INPUT: true; the input reads as it did. -/
def fnRangeParsedBracketSpecSpec : ChangeSpec := { name := "fnRangeParsedBracketSpec", fn := fun _ => fun
  | [d1, d2, d3, d4] => { results := [.lit (.bool true)], args := [d1, d2, d3, d4] }
  | _ => none }
def fnRangeParsedBracketSpecRow : OpenClaim := { program := "ytkpnjhnopgbhlaafmt", sum := "211f7ed2f75149d1697d723b0cdd47a2fba6b4be1d8920bb0d652f61a1faa7cf", func := "github.com/yuin/gopher-lua/n005_33.FnRangeParsedBracketSpec", spec := "fnRangeParsedBracketSpec", stops := ["fmt.Sprintf, its operands' methods called"], inPlace := ["fmt.Sprintf"], unfollowed := true, recurses := true, apart := false }
/-- NO THEOREM (fmt's text is open here; it may be false): for the released tool's asking of the row's closed facts alone. THE STATEMENT IS 'FnRangeParsedBracketSpecToldSaid' (YtkpnjhnopgbhlaaFmtCards.lean). -/
def FnRangeParsedBracketSpecFormAsk : Prop := fnRangeParsedBracketSpecRow.holds Tryf.pinned (OpenSpec.ofChange fnRangeParsedBracketSpecSpec)

/-- ITS FALSE NEIGHBOUR: 'it returns false'. Refute it at one input. -/
def fnRangeParsedBracketSpecWrong : ChangeSpec := { name := "fnRangeParsedBracketSpec", fn := fun _ => fun
  | [d1, d2, d3, d4] => { results := [.lit (.bool false)], args := [d1, d2, d3, d4] }
  | _ => none }
def FnRangeParsedBracketSpecWrongFormAsk : Prop := fnRangeParsedBracketSpecRow.holds Tryf.pinned (OpenSpec.ofChange fnRangeParsedBracketSpecWrong)

/-- 'n005_33.FnDotAgreesWithComplementaryUnions': WHATEVER THE INPUT: true; the input reads as it did. -/
def fnDotAgreesWithComplementaryUnionsSpec : ChangeSpec := { name := "fnDotAgreesWithComplementaryUnions", fn := fun _ => fun
  | [d] => { results := [.lit (.bool true)], args := [d] }
  | _ => none }
def fnDotAgreesWithComplementaryUnionsRow : OpenClaim := { program := "ytkpnjhnopgbhlaafmt", sum := "211f7ed2f75149d1697d723b0cdd47a2fba6b4be1d8920bb0d652f61a1faa7cf", func := "github.com/yuin/gopher-lua/n005_33.FnDotAgreesWithComplementaryUnions", spec := "fnDotAgreesWithComplementaryUnions", stops := ["fmt.Sprintf, its operands' methods called"], inPlace := ["fmt.Sprintf"], unfollowed := true, recurses := true, apart := false }
/-- NO THEOREM (fmt's text is open here; it may be false): for the released tool's asking of the row's closed facts alone. THE STATEMENT IS 'FnDotAgreesWithComplementaryUnionsToldSaid' (YtkpnjhnopgbhlaaFmtCards.lean). -/
def FnDotAgreesWithComplementaryUnionsFormAsk : Prop := fnDotAgreesWithComplementaryUnionsRow.holds Tryf.pinned (OpenSpec.ofChange fnDotAgreesWithComplementaryUnionsSpec)

/-- ITS FALSE NEIGHBOUR: 'it returns false'. Refute it at one input. -/
def fnDotAgreesWithComplementaryUnionsWrong : ChangeSpec := { name := "fnDotAgreesWithComplementaryUnions", fn := fun _ => fun
  | [d] => { results := [.lit (.bool false)], args := [d] }
  | _ => none }
def FnDotAgreesWithComplementaryUnionsWrongFormAsk : Prop := fnDotAgreesWithComplementaryUnionsRow.holds Tryf.pinned (OpenSpec.ofChange fnDotAgreesWithComplementaryUnionsWrong)

/-- 'n005_33.FnSetParsedMembers': WHATEVER THE INPUT: true; the input reads as it did. -/
def fnSetParsedMembersSpec : ChangeSpec := { name := "fnSetParsedMembers", fn := fun _ => fun
  | [d1, d2, d3] => { results := [.lit (.bool true)], args := [d1, d2, d3] }
  | _ => none }
def fnSetParsedMembersRow : OpenClaim := { program := "ytkpnjhnopgbhlaafmt", sum := "211f7ed2f75149d1697d723b0cdd47a2fba6b4be1d8920bb0d652f61a1faa7cf", func := "github.com/yuin/gopher-lua/n005_33.FnSetParsedMembers", spec := "fnSetParsedMembers", stops := ["fmt.Sprintf, its operands' methods called"], inPlace := ["fmt.Sprintf"], unfollowed := true, recurses := true, apart := false }
/-- NO THEOREM (fmt's text is open here; it may be false): for the released tool's asking of the row's closed facts alone. THE STATEMENT IS 'FnSetParsedMembersToldSaid' (YtkpnjhnopgbhlaaFmtCards.lean). -/
def FnSetParsedMembersFormAsk : Prop := fnSetParsedMembersRow.holds Tryf.pinned (OpenSpec.ofChange fnSetParsedMembersSpec)

/-- ITS FALSE NEIGHBOUR: 'it returns false'. Refute it at one input. -/
def fnSetParsedMembersWrong : ChangeSpec := { name := "fnSetParsedMembers", fn := fun _ => fun
  | [d1, d2, d3] => { results := [.lit (.bool false)], args := [d1, d2, d3] }
  | _ => none }
def FnSetParsedMembersWrongFormAsk : Prop := fnSetParsedMembersRow.holds Tryf.pinned (OpenSpec.ofChange fnSetParsedMembersWrong)

end Rows
end Go.Proofs.YtkpnjhnopgbhlaaFmt
