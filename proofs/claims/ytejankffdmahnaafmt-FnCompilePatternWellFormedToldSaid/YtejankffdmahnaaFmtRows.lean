/-
  No cell of these rows narrows 'for every input' (looked for: loops, veiled, ifaces, maps, wideKeys, modest, calm, conditions, laid).
  DERIVED. THE GIVEN ROWS OF THIS SEAT. 2 by the template 'for every input the law returns true; each argument reads behind the call as it read before'; 0 by the template 'total and deterministic' (their statements: YtejankffdmahnaaFmtTotals.lean).
  GIVEN WITH THE SEED: the statements are not yours to turn. If you find one false, say at which input.
  Laid BY PROGRAM, IN A SANDBOX (cutbox-rows.mjs): the forced cells as the released guide's own fill.sh prints them over the translation 854a366b9b94ca0d… (all of the seat's roots in one cut). By AI agents, Wed Nov 11 2026. No macro, syntax, notation, axiom, sorry.
-/
import Derived.Test.YtejankffdmahnaaFmtChecked
import GoSem.Claim
import GoSem.ClaimJoined
import GoSem.ClaimMapViews
import Derived.JoinedTies
import Derived.KernelRfl
namespace Go.Proofs.YtejankffdmahnaaFmt
/- THE CELL 'sum', in the pinned program and in every row, IS THE sha256 OF THE DUMP (.gsa) THAT YtejankffdmahnaaFmtProg.lean LOADS. Nothing in Lean hashes anything: it is a label: what it is worth is what the hold of that sum in a sandbox is worth. -/
noncomputable def Tryf.pinned : Pinned := { name := "ytejankffdmahnaafmt", sum := "854a366b9b94ca0de8aadeed4f098d647f22977c65f7eb925b014c693f68c4d9", checked := Tryf.checked }
namespace Rows
def none {H : Type} : Left H := { results := [], args := [] }

/-- 'n005_60.FnParseClassSetNegation': WHATEVER THE INPUT: true; the input reads as it did. -/
def fnParseClassSetNegationSpec : ChangeSpec := { name := "fnParseClassSetNegation", fn := fun _ => fun
  | [d] => { results := [.lit (.bool true)], args := [d] }
  | _ => none }
def fnParseClassSetNegationRow : OpenClaim := { program := "ytejankffdmahnaafmt", sum := "854a366b9b94ca0de8aadeed4f098d647f22977c65f7eb925b014c693f68c4d9", func := "github.com/yuin/gopher-lua/n005_60.FnParseClassSetNegation", spec := "fnParseClassSetNegation", stops := ["fmt.Sprintf, its operands' methods called"], inPlace := ["fmt.Sprintf"], unfollowed := true, recurses := true, apart := false }
/-- NO THEOREM (fmt's text is open here; it may be false): for the released tool's asking of the row's closed facts alone. THE STATEMENT IS 'FnParseClassSetNegationToldSaid' (YtejankffdmahnaaFmtCards.lean). -/
def FnParseClassSetNegationFormAsk : Prop := fnParseClassSetNegationRow.holds Tryf.pinned (OpenSpec.ofChange fnParseClassSetNegationSpec)

/-- ITS FALSE NEIGHBOUR: 'it returns false'. Refute it at one input. -/
def fnParseClassSetNegationWrong : ChangeSpec := { name := "fnParseClassSetNegation", fn := fun _ => fun
  | [d] => { results := [.lit (.bool false)], args := [d] }
  | _ => none }
def FnParseClassSetNegationWrongFormAsk : Prop := fnParseClassSetNegationRow.holds Tryf.pinned (OpenSpec.ofChange fnParseClassSetNegationWrong)

/-- 'n005_60.FnCompilePatternWellFormed': WHATEVER THE INPUT: true; the input reads as it did. -/
def fnCompilePatternWellFormedSpec : ChangeSpec := { name := "fnCompilePatternWellFormed", fn := fun _ => fun
  | [d] => { results := [.lit (.bool true)], args := [d] }
  | _ => none }
def fnCompilePatternWellFormedRow : OpenClaim := { program := "ytejankffdmahnaafmt", sum := "854a366b9b94ca0de8aadeed4f098d647f22977c65f7eb925b014c693f68c4d9", func := "github.com/yuin/gopher-lua/n005_60.FnCompilePatternWellFormed", spec := "fnCompilePatternWellFormed", stops := ["fmt.Sprintf, its operands' methods called"], inPlace := ["fmt.Sprintf"], unfollowed := true, recurses := true, apart := false }
/-- NO THEOREM (fmt's text is open here; it may be false): for the released tool's asking of the row's closed facts alone. THE STATEMENT IS 'FnCompilePatternWellFormedToldSaid' (YtejankffdmahnaaFmtCards.lean). -/
def FnCompilePatternWellFormedFormAsk : Prop := fnCompilePatternWellFormedRow.holds Tryf.pinned (OpenSpec.ofChange fnCompilePatternWellFormedSpec)

/-- ITS FALSE NEIGHBOUR: 'it returns false'. Refute it at one input. -/
def fnCompilePatternWellFormedWrong : ChangeSpec := { name := "fnCompilePatternWellFormed", fn := fun _ => fun
  | [d] => { results := [.lit (.bool false)], args := [d] }
  | _ => none }
def FnCompilePatternWellFormedWrongFormAsk : Prop := fnCompilePatternWellFormedRow.holds Tryf.pinned (OpenSpec.ofChange fnCompilePatternWellFormedWrong)

end Rows
end Go.Proofs.YtejankffdmahnaaFmt
