/-
  No cell of these rows narrows 'for every input' (looked for: loops, veiled, ifaces, maps, wideKeys, modest, calm, conditions, laid).
  DERIVED. THE GIVEN ROWS OF THIS SEAT. 3 by the template 'for every input the law returns true; each argument reads behind the call as it read before'; 0 by the template 'total and deterministic' (their statements: YtidgncgjjiigpaaTotals.lean).
  GIVEN WITH THE SEED: the statements are not yours to turn. If you find one false, say at which input.
  Laid BY PROGRAM, IN A SANDBOX (cutbox-rows.mjs): the forced cells as the released guide's own fill.sh prints them over the translation 182cf1d31998ca39… (all of the seat's roots in one cut). By AI agents, Wed Nov 11 2026. No macro, syntax, notation, axiom, sorry.
-/
import Derived.Test.YtidgncgjjiigpaaChecked
import GoSem.Claim
import GoSem.ClaimJoined
import GoSem.ClaimMapViews
import Derived.JoinedTies
import Derived.KernelRfl
namespace Go.Proofs.Ytidgncgjjiigpaa
/- THE CELL 'sum', in the pinned program and in every row, IS THE sha256 OF THE DUMP (.gsa) THAT YtidgncgjjiigpaaProg.lean LOADS. Nothing in Lean hashes anything: it is a label: what it is worth is what the hold of that sum in a sandbox is worth. -/
noncomputable def Try.pinned : Pinned := { name := "ytidgncgjjiigpaa", sum := "182cf1d31998ca39ab4b6d5bb97001bdae330fb9348ee3f4133bfc07062eab0f", checked := Try.checked }
namespace Rows
def none {H : Type} : Left H := { results := [], args := [] }

/-- 'n005_93.FnNewMatchStateIndependent': WHATEVER THE INPUT: true; the input reads as it did. -/
def fnNewMatchStateIndependentSpec : ChangeSpec := { name := "fnNewMatchStateIndependent", fn := fun _ => fun
  | [d1, d2] => { results := [.lit (.bool true)], args := [d1, d2] }
  | _ => none }
def fnNewMatchStateIndependentRow : OpenClaim := { program := "ytidgncgjjiigpaa", sum := "182cf1d31998ca39ab4b6d5bb97001bdae330fb9348ee3f4133bfc07062eab0f", func := "github.com/yuin/gopher-lua/n005_93.FnNewMatchStateIndependent", spec := "fnNewMatchStateIndependent", apart := false }
def FnNewMatchStateIndependentSaid : Prop := fnNewMatchStateIndependentRow.holds Try.pinned (OpenSpec.ofChange fnNewMatchStateIndependentSpec)

/-- ITS FALSE NEIGHBOUR: 'it returns false'. Refute it at one input. -/
def fnNewMatchStateIndependentWrong : ChangeSpec := { name := "fnNewMatchStateIndependent", fn := fun _ => fun
  | [d1, d2] => { results := [.lit (.bool false)], args := [d1, d2] }
  | _ => none }
def FnNewMatchStateIndependentWrongFalsely : Prop := fnNewMatchStateIndependentRow.holds Try.pinned (OpenSpec.ofChange fnNewMatchStateIndependentWrong)

/-- 'n005_93.FnAddPosCaptureOnFresh': WHATEVER THE INPUT: true; the input reads as it did. -/
def fnAddPosCaptureOnFreshSpec : ChangeSpec := { name := "fnAddPosCaptureOnFresh", fn := fun _ => fun
  | [d1, d2] => { results := [.lit (.bool true)], args := [d1, d2] }
  | _ => none }
def fnAddPosCaptureOnFreshRow : OpenClaim := { program := "ytidgncgjjiigpaa", sum := "182cf1d31998ca39ab4b6d5bb97001bdae330fb9348ee3f4133bfc07062eab0f", func := "github.com/yuin/gopher-lua/n005_93.FnAddPosCaptureOnFresh", spec := "fnAddPosCaptureOnFresh", apart := false }
def FnAddPosCaptureOnFreshSaid : Prop := fnAddPosCaptureOnFreshRow.holds Try.pinned (OpenSpec.ofChange fnAddPosCaptureOnFreshSpec)

/-- ITS FALSE NEIGHBOUR: 'it returns false'. Refute it at one input. -/
def fnAddPosCaptureOnFreshWrong : ChangeSpec := { name := "fnAddPosCaptureOnFresh", fn := fun _ => fun
  | [d1, d2] => { results := [.lit (.bool false)], args := [d1, d2] }
  | _ => none }
def FnAddPosCaptureOnFreshWrongFalsely : Prop := fnAddPosCaptureOnFreshRow.holds Try.pinned (OpenSpec.ofChange fnAddPosCaptureOnFreshWrong)

/-- 'n005_93.FnAddPosCaptureScript': WHATEVER THE INPUT: true; the input reads as it did. -/
def fnAddPosCaptureScriptSpec : ChangeSpec := { name := "fnAddPosCaptureScript", fn := fun _ => fun
  | [d1, d2] => { results := [.lit (.bool true)], args := [d1, d2] }
  | _ => none }
def fnAddPosCaptureScriptRow : OpenClaim := { program := "ytidgncgjjiigpaa", sum := "182cf1d31998ca39ab4b6d5bb97001bdae330fb9348ee3f4133bfc07062eab0f", func := "github.com/yuin/gopher-lua/n005_93.FnAddPosCaptureScript", spec := "fnAddPosCaptureScript", apart := false }
def FnAddPosCaptureScriptSaid : Prop := fnAddPosCaptureScriptRow.holds Try.pinned (OpenSpec.ofChange fnAddPosCaptureScriptSpec)

/-- ITS FALSE NEIGHBOUR: 'it returns false'. Refute it at one input. -/
def fnAddPosCaptureScriptWrong : ChangeSpec := { name := "fnAddPosCaptureScript", fn := fun _ => fun
  | [d1, d2] => { results := [.lit (.bool false)], args := [d1, d2] }
  | _ => none }
def FnAddPosCaptureScriptWrongFalsely : Prop := fnAddPosCaptureScriptRow.holds Try.pinned (OpenSpec.ofChange fnAddPosCaptureScriptWrong)

/- THE SECOND FORM. 'bulk': how many values and letters a reading holds, each counted each time it is reached (what is shared counts as often as it is met; a slice's spare places count too). A statement '..UptoSaid' is the law's where the arguments, and the package variables that the reading takes, are together of bulk at most 1048576: NARROWER than '..Said'. Prove '..Said' where nothing that the law and all that it calls make is longer than what came in: it says more and counts as full. Else prove '..UptoSaid'. A law counts once. -/
mutual
def uptoBulk {H : Type} : DataW H → Nat
  | .lit (.string bytes) => bytes.length + 1
  | .lit _ => 1
  | .nil => 1
  | .ptr d => uptoBulk d + 1
  | .slice elems spare => uptoBulkAll elems + uptoBulkAll spare + 1
  | .agg parts => uptoBulkAll parts + 1
  | .iface _ d => uptoBulk d + 1
  | .map entries => uptoBulkEntries entries + 1
  | .held _ => 1
def uptoBulkAll {H : Type} : List (DataW H) → Nat
  | [] => 0
  | d :: r => uptoBulk d + uptoBulkAll r
def uptoBulkEntries {H : Type} : List (Lit × DataW H) → Nat
  | [] => 0
  | x :: r => uptoBulkEntry x + uptoBulkEntries r
def uptoBulkEntry {H : Type} : Lit × DataW H → Nat
  | (.string bytes, d) => bytes.length + uptoBulk d + 1
  | (_, d) => uptoBulk d + 1
 end
def uptoSmall : (H : Type) → List (DataW H) → Bool := fun _ ds => decide (uptoBulkAll ds ≤ 1048576)
def OpenSpec.upto (s : _root_.Go.ChangeSpec) : _root_.Go.OpenSpec := { _root_.Go.OpenSpec.ofChange s with cond := some uptoSmall }

/-- 'n005_93.FnNewMatchStateIndependent', WHERE WHAT IT READS IS OF BULK AT MOST 1048576: true; the input reads as it did. -/
def fnNewMatchStateIndependentUptoRow : OpenClaim := { program := "ytidgncgjjiigpaa", sum := "182cf1d31998ca39ab4b6d5bb97001bdae330fb9348ee3f4133bfc07062eab0f", func := "github.com/yuin/gopher-lua/n005_93.FnNewMatchStateIndependent", spec := "fnNewMatchStateIndependent", apart := false, narrowed := true }
def FnNewMatchStateIndependentUptoSaid : Prop := fnNewMatchStateIndependentUptoRow.holds Try.pinned (OpenSpec.upto fnNewMatchStateIndependentSpec)

/-- 'n005_93.FnAddPosCaptureOnFresh', WHERE WHAT IT READS IS OF BULK AT MOST 1048576: true; the input reads as it did. -/
def fnAddPosCaptureOnFreshUptoRow : OpenClaim := { program := "ytidgncgjjiigpaa", sum := "182cf1d31998ca39ab4b6d5bb97001bdae330fb9348ee3f4133bfc07062eab0f", func := "github.com/yuin/gopher-lua/n005_93.FnAddPosCaptureOnFresh", spec := "fnAddPosCaptureOnFresh", apart := false, narrowed := true }
def FnAddPosCaptureOnFreshUptoSaid : Prop := fnAddPosCaptureOnFreshUptoRow.holds Try.pinned (OpenSpec.upto fnAddPosCaptureOnFreshSpec)

/-- 'n005_93.FnAddPosCaptureScript', WHERE WHAT IT READS IS OF BULK AT MOST 1048576: true; the input reads as it did. -/
def fnAddPosCaptureScriptUptoRow : OpenClaim := { program := "ytidgncgjjiigpaa", sum := "182cf1d31998ca39ab4b6d5bb97001bdae330fb9348ee3f4133bfc07062eab0f", func := "github.com/yuin/gopher-lua/n005_93.FnAddPosCaptureScript", spec := "fnAddPosCaptureScript", apart := false, narrowed := true }
def FnAddPosCaptureScriptUptoSaid : Prop := fnAddPosCaptureScriptUptoRow.holds Try.pinned (OpenSpec.upto fnAddPosCaptureScriptSpec)

end Rows
end Go.Proofs.Ytidgncgjjiigpaa
