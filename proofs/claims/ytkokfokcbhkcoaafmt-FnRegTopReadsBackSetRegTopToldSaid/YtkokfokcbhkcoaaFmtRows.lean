/-
  No cell of these rows narrows 'for every input' (looked for: loops, veiled, ifaces, maps, wideKeys, modest, calm, conditions, laid).
  DERIVED. THE GIVEN ROWS OF THIS SEAT. 2 by the template 'for every input the law returns true; each argument reads behind the call as it read before'; 0 by the template 'total and deterministic' (their statements: YtkokfokcbhkcoaaFmtTotals.lean).
  GIVEN WITH THE SEED: the statements are not yours to turn. If you find one false, say at which input.
  Laid BY PROGRAM, IN A SANDBOX (cutbox-rows.mjs): the forced cells as the released guide's own fill.sh prints them over the translation de4370f4f000b39a… (all of the seat's roots in one cut). By AI agents, Wed Nov 11 2026. No macro, syntax, notation, axiom, sorry.
-/
import Derived.Test.YtkokfokcbhkcoaaFmtChecked
import GoSem.Claim
import GoSem.ClaimJoined
import GoSem.ClaimMapViews
import Derived.JoinedTies
import Derived.KernelRfl
namespace Go.Proofs.YtkokfokcbhkcoaaFmt
/- THE CELL 'sum', in the pinned program and in every row, IS THE sha256 OF THE DUMP (.gsa) THAT YtkokfokcbhkcoaaFmtProg.lean LOADS. Nothing in Lean hashes anything: it is a label: what it is worth is what the hold of that sum in a sandbox is worth. -/
noncomputable def Tryf.pinned : Pinned := { name := "ytkokfokcbhkcoaafmt", sum := "de4370f4f000b39a580132d0b99e927d3e602f2c9b24e258c659ac5d7c4620c3", checked := Tryf.checked }
namespace Rows
def none {H : Type} : Left H := { results := [], args := [] }

/-- 'n005_98.FnRegTopReadsBackSetRegTop': WHATEVER THE INPUT: true; the input reads as it did. -/
def fnRegTopReadsBackSetRegTopSpec : ChangeSpec := { name := "fnRegTopReadsBackSetRegTop", fn := fun _ => fun
  | [d] => { results := [.lit (.bool true)], args := [d] }
  | _ => none }
def fnRegTopReadsBackSetRegTopRow : OpenClaim := { program := "ytkokfokcbhkcoaafmt", sum := "de4370f4f000b39a580132d0b99e927d3e602f2c9b24e258c659ac5d7c4620c3", func := "github.com/yuin/gopher-lua/n005_98.FnRegTopReadsBackSetRegTop", spec := "fnRegTopReadsBackSetRegTop", stops := ["fmt.Sprintf, its operands' methods called"], inPlace := ["fmt.Sprintf"], unfollowed := true, recurses := true, apart := false }
/-- NO THEOREM (fmt's text is open here; it may be false): for the released tool's asking of the row's closed facts alone. THE STATEMENT IS 'FnRegTopReadsBackSetRegTopToldSaid' (YtkokfokcbhkcoaaFmtCards.lean). -/
def FnRegTopReadsBackSetRegTopFormAsk : Prop := fnRegTopReadsBackSetRegTopRow.holds Tryf.pinned (OpenSpec.ofChange fnRegTopReadsBackSetRegTopSpec)

/-- ITS FALSE NEIGHBOUR: 'it returns false'. Refute it at one input. -/
def fnRegTopReadsBackSetRegTopWrong : ChangeSpec := { name := "fnRegTopReadsBackSetRegTop", fn := fun _ => fun
  | [d] => { results := [.lit (.bool false)], args := [d] }
  | _ => none }
def FnRegTopReadsBackSetRegTopWrongFormAsk : Prop := fnRegTopReadsBackSetRegTopRow.holds Tryf.pinned (OpenSpec.ofChange fnRegTopReadsBackSetRegTopWrong)

/-- 'n005_98.FnRegTopIsLastOfScript': WHATEVER THE INPUT: true; the input reads as it did. -/
def fnRegTopIsLastOfScriptSpec : ChangeSpec := { name := "fnRegTopIsLastOfScript", fn := fun _ => fun
  | [d] => { results := [.lit (.bool true)], args := [d] }
  | _ => none }
def fnRegTopIsLastOfScriptRow : OpenClaim := { program := "ytkokfokcbhkcoaafmt", sum := "de4370f4f000b39a580132d0b99e927d3e602f2c9b24e258c659ac5d7c4620c3", func := "github.com/yuin/gopher-lua/n005_98.FnRegTopIsLastOfScript", spec := "fnRegTopIsLastOfScript", stops := ["fmt.Sprintf, its operands' methods called"], inPlace := ["fmt.Sprintf"], unfollowed := true, recurses := true, apart := false }
/-- NO THEOREM (fmt's text is open here; it may be false): for the released tool's asking of the row's closed facts alone. THE STATEMENT IS 'FnRegTopIsLastOfScriptToldSaid' (YtkokfokcbhkcoaaFmtCards.lean). -/
def FnRegTopIsLastOfScriptFormAsk : Prop := fnRegTopIsLastOfScriptRow.holds Tryf.pinned (OpenSpec.ofChange fnRegTopIsLastOfScriptSpec)

/-- ITS FALSE NEIGHBOUR: 'it returns false'. Refute it at one input. -/
def fnRegTopIsLastOfScriptWrong : ChangeSpec := { name := "fnRegTopIsLastOfScript", fn := fun _ => fun
  | [d] => { results := [.lit (.bool false)], args := [d] }
  | _ => none }
def FnRegTopIsLastOfScriptWrongFormAsk : Prop := fnRegTopIsLastOfScriptRow.holds Tryf.pinned (OpenSpec.ofChange fnRegTopIsLastOfScriptWrong)

end Rows
end Go.Proofs.YtkokfokcbhkcoaaFmt
