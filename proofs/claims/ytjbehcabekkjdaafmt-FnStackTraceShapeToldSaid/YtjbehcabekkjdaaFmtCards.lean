/-
  DERIVED. GIVEN WITH THE SEED: THE CARDS: each row of YtjbehcabekkjdaaFmtRows.lean that lists a variable, with what it lists TIED to the program's text (the seventh form; the later family's looks); each row that meets fmt, with fmt's text TOLD by the authors' own Lean function (tested against real Go, not proved from fmt's source: count such statements apart). THE CARD IS WHAT COUNTS. Prove the row's statement (the work); the ties are given (YtjbehcabekkjdaaFmtTie.lean); close each card by the builder's one call (the guide's Derived/Test/ToyasCard.lean, 'card_holds'). Laid BY PROGRAM, IN A SANDBOX (cutbox-door.mjs). By AI agents, Wed Nov 11 2026. No macro, syntax, notation, axiom, sorry.
-/
import Derived.Test.YtjbehcabekkjdaaFmtRows
import GoSem.ClaimSeven
namespace Go.Proofs.YtjbehcabekkjdaaFmt
namespace Rows

/-- THE TOLD CARD OF 'n005_94.FnRawFrameNameLocal'. -/
def fnRawFrameNameLocalCard : Claim7 := { stood := { row := fnRawFrameNameLocalRow, standIns := [], harness := (true, "2e5365e807b902af25876391f63b7994568324d7293be1dbde40a3fecabbcbdb"), looks := false }, told := true, goes := false }
def FnRawFrameNameLocalToldSaid : Prop := Claim7.holds Tryf.pinned (.plain (OpenSpec.ofChange fnRawFrameNameLocalSpec)) fnRawFrameNameLocalCard
/-- ITS FALSE NEIGHBOUR. Refute it at one input. -/
def FnRawFrameNameLocalToldWrongFalsely : Prop := Claim7.holds Tryf.pinned (.plain (OpenSpec.ofChange fnRawFrameNameLocalWrong)) fnRawFrameNameLocalCard

/-- THE TOLD CARD OF 'n005_94.FnWhereExact'. -/
def fnWhereExactCard : Claim7 := { stood := { row := fnWhereExactRow, standIns := [], harness := (true, "2e5365e807b902af25876391f63b7994568324d7293be1dbde40a3fecabbcbdb"), looks := false }, told := true, goes := false }
def FnWhereExactToldSaid : Prop := Claim7.holds Tryf.pinned (.plain (OpenSpec.ofChange fnWhereExactSpec)) fnWhereExactCard
/-- ITS FALSE NEIGHBOUR. Refute it at one input. -/
def FnWhereExactToldWrongFalsely : Prop := Claim7.holds Tryf.pinned (.plain (OpenSpec.ofChange fnWhereExactWrong)) fnWhereExactCard

/-- THE TOLD CARD OF 'n005_94.FnFormattedAgreesWithRaw'. -/
def fnFormattedAgreesWithRawCard : Claim7 := { stood := { row := fnFormattedAgreesWithRawRow, standIns := [], harness := (true, "2e5365e807b902af25876391f63b7994568324d7293be1dbde40a3fecabbcbdb"), looks := false }, told := true, goes := false }
def FnFormattedAgreesWithRawToldSaid : Prop := Claim7.holds Tryf.pinned (.plain (OpenSpec.ofChange fnFormattedAgreesWithRawSpec)) fnFormattedAgreesWithRawCard
/-- ITS FALSE NEIGHBOUR. Refute it at one input. -/
def FnFormattedAgreesWithRawToldWrongFalsely : Prop := Claim7.holds Tryf.pinned (.plain (OpenSpec.ofChange fnFormattedAgreesWithRawWrong)) fnFormattedAgreesWithRawCard

/-- THE TOLD CARD OF 'n005_94.FnStackTraceShape'. -/
def fnStackTraceShapeCard : Claim7 := { stood := { row := fnStackTraceShapeRow, standIns := [], harness := (true, "2e5365e807b902af25876391f63b7994568324d7293be1dbde40a3fecabbcbdb"), looks := false }, told := true, goes := false }
def FnStackTraceShapeToldSaid : Prop := Claim7.holds Tryf.pinned (.plain (OpenSpec.ofChange fnStackTraceShapeSpec)) fnStackTraceShapeCard
/-- ITS FALSE NEIGHBOUR. Refute it at one input. -/
def FnStackTraceShapeToldWrongFalsely : Prop := Claim7.holds Tryf.pinned (.plain (OpenSpec.ofChange fnStackTraceShapeWrong)) fnStackTraceShapeCard
end Rows
end Go.Proofs.YtjbehcabekkjdaaFmt
