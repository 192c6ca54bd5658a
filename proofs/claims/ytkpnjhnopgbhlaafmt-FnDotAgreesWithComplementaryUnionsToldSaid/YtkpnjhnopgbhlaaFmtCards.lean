/-
  DERIVED. GIVEN WITH THE SEED: THE CARDS: each row of YtkpnjhnopgbhlaaFmtRows.lean that lists a variable, with what it lists TIED to the program's text (the seventh form; the later family's looks); each row that meets fmt, with fmt's text TOLD by the authors' own Lean function (tested against real Go, not proved from fmt's source: count such statements apart). THE CARD IS WHAT COUNTS. Prove the row's statement (the work); the ties are given (YtkpnjhnopgbhlaaFmtTie.lean); close each card by the builder's one call (the guide's Derived/Test/ToyasCard.lean, 'card_holds'). Laid BY PROGRAM, IN A SANDBOX (cutbox-door.mjs). By AI agents, Wed Nov 11 2026. No macro, syntax, notation, axiom, sorry.
-/
import Derived.Test.YtkpnjhnopgbhlaaFmtRows
import GoSem.ClaimSeven
namespace Go.Proofs.YtkpnjhnopgbhlaaFmt
namespace Rows

/-- THE TOLD CARD OF 'n005_33.FnDotMatchesEveryInt'. -/
def fnDotMatchesEveryIntCard : Claim7 := { stood := { row := fnDotMatchesEveryIntRow, standIns := [], harness := (true, "dc8c298758da9f0acbc2405bdcae572abe9242dbc14c78529e5d8cfd706ca48c"), looks := true }, told := true, goes := false }
def FnDotMatchesEveryIntToldSaid : Prop := Claim7.holds Tryf.pinned (.plain (OpenSpec.ofChange fnDotMatchesEveryIntSpec)) fnDotMatchesEveryIntCard
/-- ITS FALSE NEIGHBOUR. Refute it at one input. -/
def FnDotMatchesEveryIntToldWrongFalsely : Prop := Claim7.holds Tryf.pinned (.plain (OpenSpec.ofChange fnDotMatchesEveryIntWrong)) fnDotMatchesEveryIntCard

/-- THE TOLD CARD OF 'n005_33.FnCharParsedSingleByteMatchesExactlyItself'. -/
def fnCharParsedSingleByteMatchesExactlyItselfCard : Claim7 := { stood := { row := fnCharParsedSingleByteMatchesExactlyItselfRow, standIns := [], harness := (true, "dc8c298758da9f0acbc2405bdcae572abe9242dbc14c78529e5d8cfd706ca48c"), looks := true }, told := true, goes := false }
def FnCharParsedSingleByteMatchesExactlyItselfToldSaid : Prop := Claim7.holds Tryf.pinned (.plain (OpenSpec.ofChange fnCharParsedSingleByteMatchesExactlyItselfSpec)) fnCharParsedSingleByteMatchesExactlyItselfCard
/-- ITS FALSE NEIGHBOUR. Refute it at one input. -/
def FnCharParsedSingleByteMatchesExactlyItselfToldWrongFalsely : Prop := Claim7.holds Tryf.pinned (.plain (OpenSpec.ofChange fnCharParsedSingleByteMatchesExactlyItselfWrong)) fnCharParsedSingleByteMatchesExactlyItselfCard

/-- THE TOLD CARD OF 'n005_33.FnRangeParsedBracketSpec'. -/
def fnRangeParsedBracketSpecCard : Claim7 := { stood := { row := fnRangeParsedBracketSpecRow, standIns := [], harness := (true, "dc8c298758da9f0acbc2405bdcae572abe9242dbc14c78529e5d8cfd706ca48c"), looks := true }, told := true, goes := false }
def FnRangeParsedBracketSpecToldSaid : Prop := Claim7.holds Tryf.pinned (.plain (OpenSpec.ofChange fnRangeParsedBracketSpecSpec)) fnRangeParsedBracketSpecCard
/-- ITS FALSE NEIGHBOUR. Refute it at one input. -/
def FnRangeParsedBracketSpecToldWrongFalsely : Prop := Claim7.holds Tryf.pinned (.plain (OpenSpec.ofChange fnRangeParsedBracketSpecWrong)) fnRangeParsedBracketSpecCard

/-- THE TOLD CARD OF 'n005_33.FnDotAgreesWithComplementaryUnions'. -/
def fnDotAgreesWithComplementaryUnionsCard : Claim7 := { stood := { row := fnDotAgreesWithComplementaryUnionsRow, standIns := [], harness := (true, "dc8c298758da9f0acbc2405bdcae572abe9242dbc14c78529e5d8cfd706ca48c"), looks := true }, told := true, goes := false }
def FnDotAgreesWithComplementaryUnionsToldSaid : Prop := Claim7.holds Tryf.pinned (.plain (OpenSpec.ofChange fnDotAgreesWithComplementaryUnionsSpec)) fnDotAgreesWithComplementaryUnionsCard
/-- ITS FALSE NEIGHBOUR. Refute it at one input. -/
def FnDotAgreesWithComplementaryUnionsToldWrongFalsely : Prop := Claim7.holds Tryf.pinned (.plain (OpenSpec.ofChange fnDotAgreesWithComplementaryUnionsWrong)) fnDotAgreesWithComplementaryUnionsCard

/-- THE TOLD CARD OF 'n005_33.FnSetParsedMembers'. -/
def fnSetParsedMembersCard : Claim7 := { stood := { row := fnSetParsedMembersRow, standIns := [], harness := (true, "dc8c298758da9f0acbc2405bdcae572abe9242dbc14c78529e5d8cfd706ca48c"), looks := true }, told := true, goes := false }
def FnSetParsedMembersToldSaid : Prop := Claim7.holds Tryf.pinned (.plain (OpenSpec.ofChange fnSetParsedMembersSpec)) fnSetParsedMembersCard
/-- ITS FALSE NEIGHBOUR. Refute it at one input. -/
def FnSetParsedMembersToldWrongFalsely : Prop := Claim7.holds Tryf.pinned (.plain (OpenSpec.ofChange fnSetParsedMembersWrong)) fnSetParsedMembersCard
end Rows
end Go.Proofs.YtkpnjhnopgbhlaaFmt
