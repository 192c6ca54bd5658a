/-
  No cell of these rows narrows 'for every input' (looked for: loops, veiled, ifaces, maps, wideKeys, modest, calm, conditions, laid).
  DERIVED. THE GIVEN ROWS OF THIS SEAT. 2 by the template 'for every input the law returns true; each argument reads behind the call as it read before'; 0 by the template 'total and deterministic' (their statements: YtcfhhcjcnafcjaaFmtTotals.lean).
  GIVEN WITH THE SEED: the statements are not yours to turn. If you find one false, say at which input.
  Laid BY PROGRAM, IN A SANDBOX (cutbox-rows.mjs): the forced cells as the released guide's own fill.sh prints them over the translation 15ecf9611d161f8c… (all of the seat's roots in one cut). By AI agents, Wed Nov 11 2026. No macro, syntax, notation, axiom, sorry.
-/
import Derived.Test.YtcfhhcjcnafcjaaFmtChecked
import GoSem.Claim
import GoSem.ClaimJoined
import GoSem.ClaimMapViews
import Derived.JoinedTies
import Derived.KernelRfl
namespace Go.Proofs.YtcfhhcjcnafcjaaFmt
/- THE CELL 'sum', in the pinned program and in every row, IS THE sha256 OF THE DUMP (.gsa) THAT YtcfhhcjcnafcjaaFmtProg.lean LOADS. Nothing in Lean hashes anything: it is a label: what it is worth is what the hold of that sum in a sandbox is worth. -/
noncomputable def Tryf.pinned : Pinned := { name := "ytcfhhcjcnafcjaafmt", sum := "15ecf9611d161f8c43797a999d7e7fe6096e2f23e7a2bb557a3fd9c6abda132e", checked := Tryf.checked }
namespace Rows
def none {H : Type} : Left H := { results := [], args := [] }

/-- 'n005_1001.FnTop': WHATEVER THE INPUT: true; the input reads as it did. -/
def fnTopSpec : ChangeSpec := { name := "fnTop", fn := fun _ => fun
  | [d1, d2, d3, d4] => { results := [.lit (.bool true)], args := [d1, d2, d3, d4] }
  | _ => none }
def fnTopRow : OpenClaim := { program := "ytcfhhcjcnafcjaafmt", sum := "15ecf9611d161f8c43797a999d7e7fe6096e2f23e7a2bb557a3fd9c6abda132e", func := "github.com/yuin/gopher-lua/n005_1001.FnTop", spec := "fnTop", stops := ["fmt.Sprintf, its operands' methods called"], inPlace := ["fmt.Sprintf"], unfollowed := true, recurses := true, apart := false }
/-- NO THEOREM (fmt's text is open here; it may be false): for the released tool's asking of the row's closed facts alone. THE STATEMENT IS 'FnTopToldSaid' (YtcfhhcjcnafcjaaFmtCards.lean). -/
def FnTopFormAsk : Prop := fnTopRow.holds Tryf.pinned (OpenSpec.ofChange fnTopSpec)

/-- ITS FALSE NEIGHBOUR: 'it returns false'. Refute it at one input. -/
def fnTopWrong : ChangeSpec := { name := "fnTop", fn := fun _ => fun
  | [d1, d2, d3, d4] => { results := [.lit (.bool false)], args := [d1, d2, d3, d4] }
  | _ => none }
def FnTopWrongFormAsk : Prop := fnTopRow.holds Tryf.pinned (OpenSpec.ofChange fnTopWrong)

/-- 'n005_1001.FnTop2': WHATEVER THE INPUT: true; the input reads as it did. -/
def fnTop2Spec : ChangeSpec := { name := "fnTop2", fn := fun _ => fun
  | [d1, d2, d3, d4] => { results := [.lit (.bool true)], args := [d1, d2, d3, d4] }
  | _ => none }
def fnTop2Row : OpenClaim := { program := "ytcfhhcjcnafcjaafmt", sum := "15ecf9611d161f8c43797a999d7e7fe6096e2f23e7a2bb557a3fd9c6abda132e", func := "github.com/yuin/gopher-lua/n005_1001.FnTop2", spec := "fnTop2", stops := ["fmt.Sprintf, its operands' methods called"], inPlace := ["fmt.Sprintf"], unfollowed := true, recurses := true, apart := false }
/-- NO THEOREM (fmt's text is open here; it may be false): for the released tool's asking of the row's closed facts alone. THE STATEMENT IS 'FnTop2ToldSaid' (YtcfhhcjcnafcjaaFmtCards.lean). -/
def FnTop2FormAsk : Prop := fnTop2Row.holds Tryf.pinned (OpenSpec.ofChange fnTop2Spec)

/-- ITS FALSE NEIGHBOUR: 'it returns false'. Refute it at one input. -/
def fnTop2Wrong : ChangeSpec := { name := "fnTop2", fn := fun _ => fun
  | [d1, d2, d3, d4] => { results := [.lit (.bool false)], args := [d1, d2, d3, d4] }
  | _ => none }
def FnTop2WrongFormAsk : Prop := fnTop2Row.holds Tryf.pinned (OpenSpec.ofChange fnTop2Wrong)

end Rows
end Go.Proofs.YtcfhhcjcnafcjaaFmt
