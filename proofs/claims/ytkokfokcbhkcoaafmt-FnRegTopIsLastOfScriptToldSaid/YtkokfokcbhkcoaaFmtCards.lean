/-
  DERIVED. GIVEN WITH THE SEED: THE CARDS: each row of YtkokfokcbhkcoaaFmtRows.lean that lists a variable, with what it lists TIED to the program's text (the seventh form; the later family's looks); each row that meets fmt, with fmt's text TOLD by the authors' own Lean function (tested against real Go, not proved from fmt's source: count such statements apart). THE CARD IS WHAT COUNTS. Prove the row's statement (the work); the ties are given (YtkokfokcbhkcoaaFmtTie.lean); close each card by the builder's one call (the guide's Derived/Test/ToyasCard.lean, 'card_holds'). Laid BY PROGRAM, IN A SANDBOX (cutbox-door.mjs). By AI agents, Wed Nov 11 2026. No macro, syntax, notation, axiom, sorry.
-/
import Derived.Test.YtkokfokcbhkcoaaFmtRows
import GoSem.ClaimSeven
namespace Go.Proofs.YtkokfokcbhkcoaaFmt
namespace Rows

/-- THE TOLD CARD OF 'n005_98.FnRegTopReadsBackSetRegTop'. -/
def fnRegTopReadsBackSetRegTopCard : Claim7 := { stood := { row := fnRegTopReadsBackSetRegTopRow, standIns := [], harness := (true, "f9c28abdccd73893e286fcf065f0c8771f1adf1304805d983703864e50893e3f"), looks := false }, told := true, goes := false }
def FnRegTopReadsBackSetRegTopToldSaid : Prop := Claim7.holds Tryf.pinned (.plain (OpenSpec.ofChange fnRegTopReadsBackSetRegTopSpec)) fnRegTopReadsBackSetRegTopCard
/-- ITS FALSE NEIGHBOUR. Refute it at one input. -/
def FnRegTopReadsBackSetRegTopToldWrongFalsely : Prop := Claim7.holds Tryf.pinned (.plain (OpenSpec.ofChange fnRegTopReadsBackSetRegTopWrong)) fnRegTopReadsBackSetRegTopCard

/-- THE TOLD CARD OF 'n005_98.FnRegTopIsLastOfScript'. -/
def fnRegTopIsLastOfScriptCard : Claim7 := { stood := { row := fnRegTopIsLastOfScriptRow, standIns := [], harness := (true, "f9c28abdccd73893e286fcf065f0c8771f1adf1304805d983703864e50893e3f"), looks := false }, told := true, goes := false }
def FnRegTopIsLastOfScriptToldSaid : Prop := Claim7.holds Tryf.pinned (.plain (OpenSpec.ofChange fnRegTopIsLastOfScriptSpec)) fnRegTopIsLastOfScriptCard
/-- ITS FALSE NEIGHBOUR. Refute it at one input. -/
def FnRegTopIsLastOfScriptToldWrongFalsely : Prop := Claim7.holds Tryf.pinned (.plain (OpenSpec.ofChange fnRegTopIsLastOfScriptWrong)) fnRegTopIsLastOfScriptCard
end Rows
end Go.Proofs.YtkokfokcbhkcoaaFmt
