/-
  DERIVED. GIVEN WITH THE SEED: THE CARDS: each row of YtejankffdmahnaaFmtRows.lean that lists a variable, with what it lists TIED to the program's text (the seventh form; the later family's looks); each row that meets fmt, with fmt's text TOLD by the authors' own Lean function (tested against real Go, not proved from fmt's source: count such statements apart). THE CARD IS WHAT COUNTS. Prove the row's statement (the work); the ties are given (YtejankffdmahnaaFmtTie.lean); close each card by the builder's one call (the guide's Derived/Test/ToyasCard.lean, 'card_holds'). Laid BY PROGRAM, IN A SANDBOX (cutbox-door.mjs). By AI agents, Wed Nov 11 2026. No macro, syntax, notation, axiom, sorry.
-/
import Derived.Test.YtejankffdmahnaaFmtRows
import GoSem.ClaimSeven
namespace Go.Proofs.YtejankffdmahnaaFmt
namespace Rows

/-- THE TOLD CARD OF 'n005_60.FnParseClassSetNegation'. -/
def fnParseClassSetNegationCard : Claim7 := { stood := { row := fnParseClassSetNegationRow, standIns := [], harness := (true, "ed63ea41d276ed258e54fe7750a566e5c9755df799dd98f6a690861adf1c9bb0"), looks := true }, told := true, goes := false }
def FnParseClassSetNegationToldSaid : Prop := Claim7.holds Tryf.pinned (.plain (OpenSpec.ofChange fnParseClassSetNegationSpec)) fnParseClassSetNegationCard
/-- ITS FALSE NEIGHBOUR. Refute it at one input. -/
def FnParseClassSetNegationToldWrongFalsely : Prop := Claim7.holds Tryf.pinned (.plain (OpenSpec.ofChange fnParseClassSetNegationWrong)) fnParseClassSetNegationCard

/-- THE TOLD CARD OF 'n005_60.FnCompilePatternWellFormed'. -/
def fnCompilePatternWellFormedCard : Claim7 := { stood := { row := fnCompilePatternWellFormedRow, standIns := [], harness := (true, "ed63ea41d276ed258e54fe7750a566e5c9755df799dd98f6a690861adf1c9bb0"), looks := true }, told := true, goes := false }
def FnCompilePatternWellFormedToldSaid : Prop := Claim7.holds Tryf.pinned (.plain (OpenSpec.ofChange fnCompilePatternWellFormedSpec)) fnCompilePatternWellFormedCard
/-- ITS FALSE NEIGHBOUR. Refute it at one input. -/
def FnCompilePatternWellFormedToldWrongFalsely : Prop := Claim7.holds Tryf.pinned (.plain (OpenSpec.ofChange fnCompilePatternWellFormedWrong)) fnCompilePatternWellFormedCard
end Rows
end Go.Proofs.YtejankffdmahnaaFmt
