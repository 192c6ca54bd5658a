/-
  DERIVED. GIVEN WITH THE SEED: THE CARDS: each row of YtcfhhcjcnafcjaaFmtRows.lean that lists a variable, with what it lists TIED to the program's text (the seventh form; the later family's looks); each row that meets fmt, with fmt's text TOLD by the authors' own Lean function (tested against real Go, not proved from fmt's source: count such statements apart). THE CARD IS WHAT COUNTS. Prove the row's statement (the work); the ties are given (YtcfhhcjcnafcjaaFmtTie.lean); close each card by the builder's one call (the guide's Derived/Test/ToyasCard.lean, 'card_holds'). Laid BY PROGRAM, IN A SANDBOX (cutbox-door.mjs). By AI agents, Wed Nov 11 2026. No macro, syntax, notation, axiom, sorry.
-/
import Derived.Test.YtcfhhcjcnafcjaaFmtRows
import GoSem.ClaimSeven
namespace Go.Proofs.YtcfhhcjcnafcjaaFmt
namespace Rows

/-- THE TOLD CARD OF 'n005_1001.FnTop'. -/
def fnTopCard : Claim7 := { stood := { row := fnTopRow, standIns := [], harness := (true, "7fe0e18d4801f5510581eaabd5e611255cbc4be29933de171e6957ac9d5c99a2"), looks := true }, told := true, goes := false }
def FnTopToldSaid : Prop := Claim7.holds Tryf.pinned (.plain (OpenSpec.ofChange fnTopSpec)) fnTopCard
/-- ITS FALSE NEIGHBOUR. Refute it at one input. -/
def FnTopToldWrongFalsely : Prop := Claim7.holds Tryf.pinned (.plain (OpenSpec.ofChange fnTopWrong)) fnTopCard

/-- THE TOLD CARD OF 'n005_1001.FnTop2'. -/
def fnTop2Card : Claim7 := { stood := { row := fnTop2Row, standIns := [], harness := (true, "7fe0e18d4801f5510581eaabd5e611255cbc4be29933de171e6957ac9d5c99a2"), looks := true }, told := true, goes := false }
def FnTop2ToldSaid : Prop := Claim7.holds Tryf.pinned (.plain (OpenSpec.ofChange fnTop2Spec)) fnTop2Card
/-- ITS FALSE NEIGHBOUR. Refute it at one input. -/
def FnTop2ToldWrongFalsely : Prop := Claim7.holds Tryf.pinned (.plain (OpenSpec.ofChange fnTop2Wrong)) fnTop2Card
end Rows
end Go.Proofs.YtcfhhcjcnafcjaaFmt
