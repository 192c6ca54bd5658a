/-
  DERIVED. GIVEN WITH THE SEED: THE CARDS: each row of YtankjgbcpdodgaaFmtRows.lean that lists a variable, with what it lists TIED to the program's text (the seventh form; the later family's looks); each row that meets fmt, with fmt's text TOLD by the authors' own Lean function (tested against real Go, not proved from fmt's source: count such statements apart). THE CARD IS WHAT COUNTS. Prove the row's statement (the work); the ties are given (YtankjgbcpdodgaaFmtTie.lean); close each card by the builder's one call (the guide's Derived/Test/ToyasCard.lean, 'card_holds'). Laid BY PROGRAM, IN A SANDBOX (cutbox-door.mjs). By AI agents, Wed Nov 11 2026. No macro, syntax, notation, axiom, sorry.
-/
import Derived.Test.YtankjgbcpdodgaaFmtRows
import GoSem.ClaimSeven
namespace Go.Proofs.YtankjgbcpdodgaaFmt
namespace Rows

/-- THE TOLD CARD OF 'n005_108.FnRecursiveVMTailAnchoredLiteral'. -/
def fnRecursiveVMTailAnchoredLiteralCard : Claim7 := { stood := { row := fnRecursiveVMTailAnchoredLiteralRow, standIns := [], harness := (true, "34b94395d7252693a5ce94132afb07188437961119665ac3de06d967ac166f6d"), looks := true }, told := true, goes := false }
def FnRecursiveVMTailAnchoredLiteralToldSaid : Prop := Claim7.holds Tryf.pinned (.plain (OpenSpec.ofChange fnRecursiveVMTailAnchoredLiteralSpec)) fnRecursiveVMTailAnchoredLiteralCard
/-- ITS FALSE NEIGHBOUR. Refute it at one input. -/
def FnRecursiveVMTailAnchoredLiteralToldWrongFalsely : Prop := Claim7.holds Tryf.pinned (.plain (OpenSpec.ofChange fnRecursiveVMTailAnchoredLiteralWrong)) fnRecursiveVMTailAnchoredLiteralCard

/-- THE TOLD CARD OF 'n005_108.FnRecursiveVMLiteralPrefixAt'. -/
def fnRecursiveVMLiteralPrefixAtCard : Claim7 := { stood := { row := fnRecursiveVMLiteralPrefixAtRow, standIns := [], harness := (true, "34b94395d7252693a5ce94132afb07188437961119665ac3de06d967ac166f6d"), looks := true }, told := true, goes := false }
def FnRecursiveVMLiteralPrefixAtToldSaid : Prop := Claim7.holds Tryf.pinned (.plain (OpenSpec.ofChange fnRecursiveVMLiteralPrefixAtSpec)) fnRecursiveVMLiteralPrefixAtCard
/-- ITS FALSE NEIGHBOUR. Refute it at one input. -/
def FnRecursiveVMLiteralPrefixAtToldWrongFalsely : Prop := Claim7.holds Tryf.pinned (.plain (OpenSpec.ofChange fnRecursiveVMLiteralPrefixAtWrong)) fnRecursiveVMLiteralPrefixAtCard

/-- THE TOLD CARD OF 'n005_108.FnFindLiteralAgreesWithNaiveScan'. -/
def fnFindLiteralAgreesWithNaiveScanCard : Claim7 := { stood := { row := fnFindLiteralAgreesWithNaiveScanRow, standIns := [], harness := (true, "34b94395d7252693a5ce94132afb07188437961119665ac3de06d967ac166f6d"), looks := true }, told := true, goes := false }
def FnFindLiteralAgreesWithNaiveScanToldSaid : Prop := Claim7.holds Tryf.pinned (.plain (OpenSpec.ofChange fnFindLiteralAgreesWithNaiveScanSpec)) fnFindLiteralAgreesWithNaiveScanCard
/-- ITS FALSE NEIGHBOUR. Refute it at one input. -/
def FnFindLiteralAgreesWithNaiveScanToldWrongFalsely : Prop := Claim7.holds Tryf.pinned (.plain (OpenSpec.ofChange fnFindLiteralAgreesWithNaiveScanWrong)) fnFindLiteralAgreesWithNaiveScanCard

/-- THE TOLD CARD OF 'n005_108.FnFindDigitRunsAreMaximal'. -/
def fnFindDigitRunsAreMaximalCard : Claim7 := { stood := { row := fnFindDigitRunsAreMaximalRow, standIns := [], harness := (true, "34b94395d7252693a5ce94132afb07188437961119665ac3de06d967ac166f6d"), looks := true }, told := true, goes := false }
def FnFindDigitRunsAreMaximalToldSaid : Prop := Claim7.holds Tryf.pinned (.plain (OpenSpec.ofChange fnFindDigitRunsAreMaximalSpec)) fnFindDigitRunsAreMaximalCard
/-- ITS FALSE NEIGHBOUR. Refute it at one input. -/
def FnFindDigitRunsAreMaximalToldWrongFalsely : Prop := Claim7.holds Tryf.pinned (.plain (OpenSpec.ofChange fnFindDigitRunsAreMaximalWrong)) fnFindDigitRunsAreMaximalCard
end Rows
end Go.Proofs.YtankjgbcpdodgaaFmt
