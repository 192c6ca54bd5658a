/-
  No cell of these rows narrows 'for every input' (looked for: loops, veiled, ifaces, maps, wideKeys, modest, calm, conditions, laid).
  DERIVED. THE GIVEN ROWS OF THIS SEAT. 3 by the template 'for every input the law returns true; each argument reads behind the call as it read before'; 0 by the template 'total and deterministic' (their statements: YtlokpjjjpgjbcaaTotals.lean).
  GIVEN WITH THE SEED: the statements are not yours to turn. If you find one false, say at which input.
  Laid BY PROGRAM, IN A SANDBOX (cutbox-rows.mjs): the forced cells as the released guide's own fill.sh prints them over the translation e36bd2d820365276… (all of the seat's roots in one cut). By AI agents, Wed Nov 11 2026. No macro, syntax, notation, axiom, sorry.
-/
import Derived.Test.YtlokpjjjpgjbcaaChecked
import GoSem.Claim
import GoSem.ClaimJoined
import GoSem.ClaimMapViews
import Derived.JoinedTies
import Derived.KernelRfl
namespace Go.Proofs.Ytlokpjjjpgjbcaa
/- THE CELL 'sum', in the pinned program and in every row, IS THE sha256 OF THE DUMP (.gsa) THAT YtlokpjjjpgjbcaaProg.lean LOADS. Nothing in Lean hashes anything: it is a label: what it is worth is what the hold of that sum in a sandbox is worth. -/
noncomputable def Try.pinned : Pinned := { name := "ytlokpjjjpgjbcaa", sum := "e36bd2d820365276fd87ebccdfc9fee64c292116a0def6b51a79d396282794bc", checked := Try.checked }
namespace Rows
def none {H : Type} : Left H := { results := [], args := [] }

/-- 'n005_3.FnSetCaptureActsAsStore': WHATEVER THE INPUT: true; the input reads as it did. -/
def fnSetCaptureActsAsStoreSpec : ChangeSpec := { name := "fnSetCaptureActsAsStore", fn := fun _ => fun
  | [d1, d2, d3] => { results := [.lit (.bool true)], args := [d1, d2, d3] }
  | _ => none }
def fnSetCaptureActsAsStoreRow : OpenClaim := { program := "ytlokpjjjpgjbcaa", sum := "e36bd2d820365276fd87ebccdfc9fee64c292116a0def6b51a79d396282794bc", func := "github.com/yuin/gopher-lua/n005_3.FnSetCaptureActsAsStore", spec := "fnSetCaptureActsAsStore", apart := false }
def FnSetCaptureActsAsStoreSaid : Prop := fnSetCaptureActsAsStoreRow.holds Try.pinned (OpenSpec.ofChange fnSetCaptureActsAsStoreSpec)

/-- ITS FALSE NEIGHBOUR: 'it returns false'. Refute it at one input. -/
def fnSetCaptureActsAsStoreWrong : ChangeSpec := { name := "fnSetCaptureActsAsStore", fn := fun _ => fun
  | [d1, d2, d3] => { results := [.lit (.bool false)], args := [d1, d2, d3] }
  | _ => none }
def FnSetCaptureActsAsStoreWrongFalsely : Prop := fnSetCaptureActsAsStoreRow.holds Try.pinned (OpenSpec.ofChange fnSetCaptureActsAsStoreWrong)

/-- 'n005_3.FnSetCaptureIdempotent': WHATEVER THE INPUT: true; the input reads as it did. -/
def fnSetCaptureIdempotentSpec : ChangeSpec := { name := "fnSetCaptureIdempotent", fn := fun _ => fun
  | [d1, d2, d3] => { results := [.lit (.bool true)], args := [d1, d2, d3] }
  | _ => none }
def fnSetCaptureIdempotentRow : OpenClaim := { program := "ytlokpjjjpgjbcaa", sum := "e36bd2d820365276fd87ebccdfc9fee64c292116a0def6b51a79d396282794bc", func := "github.com/yuin/gopher-lua/n005_3.FnSetCaptureIdempotent", spec := "fnSetCaptureIdempotent", apart := false }
def FnSetCaptureIdempotentSaid : Prop := fnSetCaptureIdempotentRow.holds Try.pinned (OpenSpec.ofChange fnSetCaptureIdempotentSpec)

/-- ITS FALSE NEIGHBOUR: 'it returns false'. Refute it at one input. -/
def fnSetCaptureIdempotentWrong : ChangeSpec := { name := "fnSetCaptureIdempotent", fn := fun _ => fun
  | [d1, d2, d3] => { results := [.lit (.bool false)], args := [d1, d2, d3] }
  | _ => none }
def FnSetCaptureIdempotentWrongFalsely : Prop := fnSetCaptureIdempotentRow.holds Try.pinned (OpenSpec.ofChange fnSetCaptureIdempotentWrong)

/-- 'n005_3.FnScannerWalksSourceInOrder': WHATEVER THE INPUT: true; the input reads as it did. -/
def fnScannerWalksSourceInOrderSpec : ChangeSpec := { name := "fnScannerWalksSourceInOrder", fn := fun _ => fun
  | [d] => { results := [.lit (.bool true)], args := [d] }
  | _ => none }
def fnScannerWalksSourceInOrderRow : OpenClaim := { program := "ytlokpjjjpgjbcaa", sum := "e36bd2d820365276fd87ebccdfc9fee64c292116a0def6b51a79d396282794bc", func := "github.com/yuin/gopher-lua/n005_3.FnScannerWalksSourceInOrder", spec := "fnScannerWalksSourceInOrder", apart := false }
def FnScannerWalksSourceInOrderSaid : Prop := fnScannerWalksSourceInOrderRow.holds Try.pinned (OpenSpec.ofChange fnScannerWalksSourceInOrderSpec)

/-- ITS FALSE NEIGHBOUR: 'it returns false'. Refute it at one input. -/
def fnScannerWalksSourceInOrderWrong : ChangeSpec := { name := "fnScannerWalksSourceInOrder", fn := fun _ => fun
  | [d] => { results := [.lit (.bool false)], args := [d] }
  | _ => none }
def FnScannerWalksSourceInOrderWrongFalsely : Prop := fnScannerWalksSourceInOrderRow.holds Try.pinned (OpenSpec.ofChange fnScannerWalksSourceInOrderWrong)

/- THE SECOND FORM. 'bulk': how many values and letters a reading holds, each counted each time it is reached (what is shared counts as often as it is met; a slice's spare places count too). A statement '..UptoSaid' is the law's where the arguments, and the package variables that the reading takes, are together of bulk at most 1048576: NARROWER than '..Said'. Prove '..Said' where nothing that the law and all that it calls make is longer than what came in: it says more and counts as full. Else prove '..UptoSaid'. A law counts once. -/
mutual
def uptoBulk {H : Type} : DataW H → Nat
  | .lit (.string bytes) => bytes.length + 1
  | .lit _ => 1
  | .nil => 1
  | .ptr d => uptoBulk d + 1
  | .slice elems spare => uptoBulkAll elems + uptoBulkAll spare + 1
  | .agg parts => uptoBulkAll parts + 1
  | .iface _ d => uptoBulk d + 1
  | .map entries => uptoBulkEntries entries + 1
  | .held _ => 1
def uptoBulkAll {H : Type} : List (DataW H) → Nat
  | [] => 0
  | d :: r => uptoBulk d + uptoBulkAll r
def uptoBulkEntries {H : Type} : List (Lit × DataW H) → Nat
  | [] => 0
  | x :: r => uptoBulkEntry x + uptoBulkEntries r
def uptoBulkEntry {H : Type} : Lit × DataW H → Nat
  | (.string bytes, d) => bytes.length + uptoBulk d + 1
  | (_, d) => uptoBulk d + 1
 end
def uptoSmall : (H : Type) → List (DataW H) → Bool := fun _ ds => decide (uptoBulkAll ds ≤ 1048576)
def OpenSpec.upto (s : _root_.Go.ChangeSpec) : _root_.Go.OpenSpec := { _root_.Go.OpenSpec.ofChange s with cond := some uptoSmall }

/-- 'n005_3.FnSetCaptureActsAsStore', WHERE WHAT IT READS IS OF BULK AT MOST 1048576: true; the input reads as it did. -/
def fnSetCaptureActsAsStoreUptoRow : OpenClaim := { program := "ytlokpjjjpgjbcaa", sum := "e36bd2d820365276fd87ebccdfc9fee64c292116a0def6b51a79d396282794bc", func := "github.com/yuin/gopher-lua/n005_3.FnSetCaptureActsAsStore", spec := "fnSetCaptureActsAsStore", apart := false, narrowed := true }
def FnSetCaptureActsAsStoreUptoSaid : Prop := fnSetCaptureActsAsStoreUptoRow.holds Try.pinned (OpenSpec.upto fnSetCaptureActsAsStoreSpec)

/-- 'n005_3.FnSetCaptureIdempotent', WHERE WHAT IT READS IS OF BULK AT MOST 1048576: true; the input reads as it did. -/
def fnSetCaptureIdempotentUptoRow : OpenClaim := { program := "ytlokpjjjpgjbcaa", sum := "e36bd2d820365276fd87ebccdfc9fee64c292116a0def6b51a79d396282794bc", func := "github.com/yuin/gopher-lua/n005_3.FnSetCaptureIdempotent", spec := "fnSetCaptureIdempotent", apart := false, narrowed := true }
def FnSetCaptureIdempotentUptoSaid : Prop := fnSetCaptureIdempotentUptoRow.holds Try.pinned (OpenSpec.upto fnSetCaptureIdempotentSpec)

/-- 'n005_3.FnScannerWalksSourceInOrder', WHERE WHAT IT READS IS OF BULK AT MOST 1048576: true; the input reads as it did. -/
def fnScannerWalksSourceInOrderUptoRow : OpenClaim := { program := "ytlokpjjjpgjbcaa", sum := "e36bd2d820365276fd87ebccdfc9fee64c292116a0def6b51a79d396282794bc", func := "github.com/yuin/gopher-lua/n005_3.FnScannerWalksSourceInOrder", spec := "fnScannerWalksSourceInOrder", apart := false, narrowed := true }
def FnScannerWalksSourceInOrderUptoSaid : Prop := fnScannerWalksSourceInOrderUptoRow.holds Try.pinned (OpenSpec.upto fnScannerWalksSourceInOrderSpec)

end Rows
end Go.Proofs.Ytlokpjjjpgjbcaa
