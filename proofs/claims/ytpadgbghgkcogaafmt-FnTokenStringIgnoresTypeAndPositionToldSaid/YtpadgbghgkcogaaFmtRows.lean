/-
  No cell of these rows narrows 'for every input' (looked for: loops, veiled, ifaces, maps, wideKeys, modest, calm, conditions, laid).
  DERIVED. THE GIVEN ROWS OF THIS SEAT. 1 by the template 'for every input the law returns true; each argument reads behind the call as it read before'; 0 by the template 'total and deterministic' (their statements: YtpadgbghgkcogaaFmtTotals.lean).
  GIVEN WITH THE SEED: the statements are not yours to turn. If you find one false, say at which input.
  Laid BY PROGRAM, IN A SANDBOX (cutbox-rows.mjs): the forced cells as the released guide's own fill.sh prints them over the translation 153a399d157dd5bc… (all of the seat's roots in one cut). By AI agents, Wed Nov 11 2026. No macro, syntax, notation, axiom, sorry.
-/
import Derived.Test.YtpadgbghgkcogaaFmtChecked
import GoSem.Claim
import GoSem.ClaimJoined
import GoSem.ClaimMapViews
import Derived.JoinedTies
import Derived.KernelRfl
namespace Go.Proofs.YtpadgbghgkcogaaFmt
/- THE CELL 'sum', in the pinned program and in every row, IS THE sha256 OF THE DUMP (.gsa) THAT YtpadgbghgkcogaaFmtProg.lean LOADS. Nothing in Lean hashes anything: it is a label: what it is worth is what the hold of that sum in a sandbox is worth. -/
noncomputable def Tryf.pinned : Pinned := { name := "ytpadgbghgkcogaafmt", sum := "153a399d157dd5bc09b9c7f3c1f0d683d6e781e2a6d56ff57dddd5435169c8fa", checked := Tryf.checked }
namespace Rows
def none {H : Type} : Left H := { results := [], args := [] }

/-- 'n005_26.FnTokenStringIgnoresTypeAndPosition': WHATEVER THE INPUT: true; the input reads as it did. -/
def fnTokenStringIgnoresTypeAndPositionSpec : ChangeSpec := { name := "fnTokenStringIgnoresTypeAndPosition", fn := fun _ => fun
  | [d1, d2, d3, d4, d5, d6, d7, d8, d9, d10] => { results := [.lit (.bool true)], args := [d1, d2, d3, d4, d5, d6, d7, d8, d9, d10] }
  | _ => none }
def fnTokenStringIgnoresTypeAndPositionRow : OpenClaim := { program := "ytpadgbghgkcogaafmt", sum := "153a399d157dd5bc09b9c7f3c1f0d683d6e781e2a6d56ff57dddd5435169c8fa", func := "github.com/yuin/gopher-lua/n005_26.FnTokenStringIgnoresTypeAndPosition", spec := "fnTokenStringIgnoresTypeAndPosition", stops := ["fmt.Sprintf"], inPlace := ["fmt.Sprintf"], apart := false }
/-- NO THEOREM (fmt's text is open here; it may be false): for the released tool's asking of the row's closed facts alone. THE STATEMENT IS 'FnTokenStringIgnoresTypeAndPositionToldSaid' (YtpadgbghgkcogaaFmtCards.lean). -/
def FnTokenStringIgnoresTypeAndPositionFormAsk : Prop := fnTokenStringIgnoresTypeAndPositionRow.holds Tryf.pinned (OpenSpec.ofChange fnTokenStringIgnoresTypeAndPositionSpec)

/-- ITS FALSE NEIGHBOUR: 'it returns false'. Refute it at one input. -/
def fnTokenStringIgnoresTypeAndPositionWrong : ChangeSpec := { name := "fnTokenStringIgnoresTypeAndPosition", fn := fun _ => fun
  | [d1, d2, d3, d4, d5, d6, d7, d8, d9, d10] => { results := [.lit (.bool false)], args := [d1, d2, d3, d4, d5, d6, d7, d8, d9, d10] }
  | _ => none }
def FnTokenStringIgnoresTypeAndPositionWrongFormAsk : Prop := fnTokenStringIgnoresTypeAndPositionRow.holds Tryf.pinned (OpenSpec.ofChange fnTokenStringIgnoresTypeAndPositionWrong)

end Rows
end Go.Proofs.YtpadgbghgkcogaaFmt
