/-
  DERIVED. GIVEN WITH THE SEED: THE CARDS: each row of YtpadgbghgkcogaaFmtRows.lean that lists a variable, with what it lists TIED to the program's text (the seventh form; the later family's looks); each row that meets fmt, with fmt's text TOLD by the authors' own Lean function (tested against real Go, not proved from fmt's source: count such statements apart). THE CARD IS WHAT COUNTS. Prove the row's statement (the work); the ties are given (YtpadgbghgkcogaaFmtTie.lean); close each card by the builder's one call (the guide's Derived/Test/ToyasCard.lean, 'card_holds'). Laid BY PROGRAM, IN A SANDBOX (cutbox-door.mjs). By AI agents, Wed Nov 11 2026. No macro, syntax, notation, axiom, sorry.
-/
import Derived.Test.YtpadgbghgkcogaaFmtRows
import GoSem.ClaimSeven
namespace Go.Proofs.YtpadgbghgkcogaaFmt
namespace Rows

/-- THE TOLD CARD OF 'n005_26.FnTokenStringIgnoresTypeAndPosition'. -/
def fnTokenStringIgnoresTypeAndPositionCard : Claim7 := { stood := { row := fnTokenStringIgnoresTypeAndPositionRow, standIns := [], harness := (true, "17ffd7917397f1d7c2dfeddd1b51e24cd7299420c910ec64417d0c78747902a5"), looks := false }, told := true, goes := false }
def FnTokenStringIgnoresTypeAndPositionToldSaid : Prop := Claim7.holds Tryf.pinned (.plain (OpenSpec.ofChange fnTokenStringIgnoresTypeAndPositionSpec)) fnTokenStringIgnoresTypeAndPositionCard
/-- ITS FALSE NEIGHBOUR. Refute it at one input. -/
def FnTokenStringIgnoresTypeAndPositionToldWrongFalsely : Prop := Claim7.holds Tryf.pinned (.plain (OpenSpec.ofChange fnTokenStringIgnoresTypeAndPositionWrong)) fnTokenStringIgnoresTypeAndPositionCard
end Rows
end Go.Proofs.YtpadgbghgkcogaaFmt
