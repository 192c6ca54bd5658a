/-
  No cell of these rows narrows 'for every input' (looked for: loops, veiled, ifaces, maps, wideKeys, modest, calm, conditions, laid).
  DERIVED. THE GIVEN ROWS OF THIS SEAT. 6 by the template 'for every input the law returns true; each argument reads behind the call as it read before'; 0 by the template 'total and deterministic' (their statements: YtjjlmjiocpjhcaaTotals.lean).
  GIVEN WITH THE SEED: the statements are not yours to turn. If you find one false, say at which input.
  Laid BY PROGRAM, IN A SANDBOX (cutbox-rows.mjs): the forced cells as the released guide's own fill.sh prints them over the translation 82d758d65c441c05… (all of the seat's roots in one cut). By AI agents, Wed Nov 11 2026. No macro, syntax, notation, axiom, sorry.
-/
import Derived.Test.YtjjlmjiocpjhcaaChecked
import GoSem.Claim
import GoSem.ClaimJoined
import GoSem.ClaimMapViews
import Derived.JoinedTies
import Derived.KernelRfl
namespace Go.Proofs.Ytjjlmjiocpjhcaa
/- THE CELL 'sum', in the pinned program and in every row, IS THE sha256 OF THE DUMP (.gsa) THAT YtjjlmjiocpjhcaaProg.lean LOADS. Nothing in Lean hashes anything: it is a label: what it is worth is what the hold of that sum in a sandbox is worth. -/
noncomputable def Try.pinned : Pinned := { name := "ytjjlmjiocpjhcaa", sum := "82d758d65c441c05944044ad6dc27b1980379156a6cd4a0378f04cda68d2cf3f", checked := Try.checked }
namespace Rows
def none {H : Type} : Left H := { results := [], args := [] }

/-- 'n005_145.FnIsDecimalExact': WHATEVER THE INPUT: true; the input reads as it did. -/
def fnIsDecimalExactSpec : ChangeSpec := { name := "fnIsDecimalExact", fn := fun _ => fun
  | [d] => { results := [.lit (.bool true)], args := [d] }
  | _ => none }
def fnIsDecimalExactRow : OpenClaim := { program := "ytjjlmjiocpjhcaa", sum := "82d758d65c441c05944044ad6dc27b1980379156a6cd4a0378f04cda68d2cf3f", func := "github.com/yuin/gopher-lua/n005_145.FnIsDecimalExact", spec := "fnIsDecimalExact", apart := false }
def FnIsDecimalExactSaid : Prop := fnIsDecimalExactRow.holds Try.pinned (OpenSpec.ofChange fnIsDecimalExactSpec)

/-- ITS FALSE NEIGHBOUR: 'it returns false'. Refute it at one input. -/
def fnIsDecimalExactWrong : ChangeSpec := { name := "fnIsDecimalExact", fn := fun _ => fun
  | [d] => { results := [.lit (.bool false)], args := [d] }
  | _ => none }
def FnIsDecimalExactWrongFalsely : Prop := fnIsDecimalExactRow.holds Try.pinned (OpenSpec.ofChange fnIsDecimalExactWrong)

/-- 'n005_145.FnIsDigitExact': WHATEVER THE INPUT: true; the input reads as it did. -/
def fnIsDigitExactSpec : ChangeSpec := { name := "fnIsDigitExact", fn := fun _ => fun
  | [d] => { results := [.lit (.bool true)], args := [d] }
  | _ => none }
def fnIsDigitExactRow : OpenClaim := { program := "ytjjlmjiocpjhcaa", sum := "82d758d65c441c05944044ad6dc27b1980379156a6cd4a0378f04cda68d2cf3f", func := "github.com/yuin/gopher-lua/n005_145.FnIsDigitExact", spec := "fnIsDigitExact", apart := false }
def FnIsDigitExactSaid : Prop := fnIsDigitExactRow.holds Try.pinned (OpenSpec.ofChange fnIsDigitExactSpec)

/-- ITS FALSE NEIGHBOUR: 'it returns false'. Refute it at one input. -/
def fnIsDigitExactWrong : ChangeSpec := { name := "fnIsDigitExact", fn := fun _ => fun
  | [d] => { results := [.lit (.bool false)], args := [d] }
  | _ => none }
def FnIsDigitExactWrongFalsely : Prop := fnIsDigitExactRow.holds Try.pinned (OpenSpec.ofChange fnIsDigitExactWrong)

/-- 'n005_145.FnIsIdentExact': WHATEVER THE INPUT: true; the input reads as it did. -/
def fnIsIdentExactSpec : ChangeSpec := { name := "fnIsIdentExact", fn := fun _ => fun
  | [d1, d2] => { results := [.lit (.bool true)], args := [d1, d2] }
  | _ => none }
def fnIsIdentExactRow : OpenClaim := { program := "ytjjlmjiocpjhcaa", sum := "82d758d65c441c05944044ad6dc27b1980379156a6cd4a0378f04cda68d2cf3f", func := "github.com/yuin/gopher-lua/n005_145.FnIsIdentExact", spec := "fnIsIdentExact", apart := false }
def FnIsIdentExactSaid : Prop := fnIsIdentExactRow.holds Try.pinned (OpenSpec.ofChange fnIsIdentExactSpec)

/-- ITS FALSE NEIGHBOUR: 'it returns false'. Refute it at one input. -/
def fnIsIdentExactWrong : ChangeSpec := { name := "fnIsIdentExact", fn := fun _ => fun
  | [d1, d2] => { results := [.lit (.bool false)], args := [d1, d2] }
  | _ => none }
def FnIsIdentExactWrongFalsely : Prop := fnIsIdentExactRow.holds Try.pinned (OpenSpec.ofChange fnIsIdentExactWrong)

/-- 'n005_145.FnIsDecimalIsHexNotIdentHead': WHATEVER THE INPUT: true; the input reads as it did. -/
def fnIsDecimalIsHexNotIdentHeadSpec : ChangeSpec := { name := "fnIsDecimalIsHexNotIdentHead", fn := fun _ => fun
  | [d] => { results := [.lit (.bool true)], args := [d] }
  | _ => none }
def fnIsDecimalIsHexNotIdentHeadRow : OpenClaim := { program := "ytjjlmjiocpjhcaa", sum := "82d758d65c441c05944044ad6dc27b1980379156a6cd4a0378f04cda68d2cf3f", func := "github.com/yuin/gopher-lua/n005_145.FnIsDecimalIsHexNotIdentHead", spec := "fnIsDecimalIsHexNotIdentHead", apart := false }
def FnIsDecimalIsHexNotIdentHeadSaid : Prop := fnIsDecimalIsHexNotIdentHeadRow.holds Try.pinned (OpenSpec.ofChange fnIsDecimalIsHexNotIdentHeadSpec)

/-- ITS FALSE NEIGHBOUR: 'it returns false'. Refute it at one input. -/
def fnIsDecimalIsHexNotIdentHeadWrong : ChangeSpec := { name := "fnIsDecimalIsHexNotIdentHead", fn := fun _ => fun
  | [d] => { results := [.lit (.bool false)], args := [d] }
  | _ => none }
def FnIsDecimalIsHexNotIdentHeadWrongFalsely : Prop := fnIsDecimalIsHexNotIdentHeadRow.holds Try.pinned (OpenSpec.ofChange fnIsDecimalIsHexNotIdentHeadWrong)

/-- 'n005_145.FnIsDigitCaseFoldAndIdentTail': WHATEVER THE INPUT: true; the input reads as it did. -/
def fnIsDigitCaseFoldAndIdentTailSpec : ChangeSpec := { name := "fnIsDigitCaseFoldAndIdentTail", fn := fun _ => fun
  | [d] => { results := [.lit (.bool true)], args := [d] }
  | _ => none }
def fnIsDigitCaseFoldAndIdentTailRow : OpenClaim := { program := "ytjjlmjiocpjhcaa", sum := "82d758d65c441c05944044ad6dc27b1980379156a6cd4a0378f04cda68d2cf3f", func := "github.com/yuin/gopher-lua/n005_145.FnIsDigitCaseFoldAndIdentTail", spec := "fnIsDigitCaseFoldAndIdentTail", apart := false }
def FnIsDigitCaseFoldAndIdentTailSaid : Prop := fnIsDigitCaseFoldAndIdentTailRow.holds Try.pinned (OpenSpec.ofChange fnIsDigitCaseFoldAndIdentTailSpec)

/-- ITS FALSE NEIGHBOUR: 'it returns false'. Refute it at one input. -/
def fnIsDigitCaseFoldAndIdentTailWrong : ChangeSpec := { name := "fnIsDigitCaseFoldAndIdentTail", fn := fun _ => fun
  | [d] => { results := [.lit (.bool false)], args := [d] }
  | _ => none }
def FnIsDigitCaseFoldAndIdentTailWrongFalsely : Prop := fnIsDigitCaseFoldAndIdentTailRow.holds Try.pinned (OpenSpec.ofChange fnIsDigitCaseFoldAndIdentTailWrong)

/-- 'n005_145.FnIsIdentDependsOnlyOnFirstness': WHATEVER THE INPUT: true; the input reads as it did. -/
def fnIsIdentDependsOnlyOnFirstnessSpec : ChangeSpec := { name := "fnIsIdentDependsOnlyOnFirstness", fn := fun _ => fun
  | [d1, d2] => { results := [.lit (.bool true)], args := [d1, d2] }
  | _ => none }
def fnIsIdentDependsOnlyOnFirstnessRow : OpenClaim := { program := "ytjjlmjiocpjhcaa", sum := "82d758d65c441c05944044ad6dc27b1980379156a6cd4a0378f04cda68d2cf3f", func := "github.com/yuin/gopher-lua/n005_145.FnIsIdentDependsOnlyOnFirstness", spec := "fnIsIdentDependsOnlyOnFirstness", apart := false }
def FnIsIdentDependsOnlyOnFirstnessSaid : Prop := fnIsIdentDependsOnlyOnFirstnessRow.holds Try.pinned (OpenSpec.ofChange fnIsIdentDependsOnlyOnFirstnessSpec)

/-- ITS FALSE NEIGHBOUR: 'it returns false'. Refute it at one input. -/
def fnIsIdentDependsOnlyOnFirstnessWrong : ChangeSpec := { name := "fnIsIdentDependsOnlyOnFirstness", fn := fun _ => fun
  | [d1, d2] => { results := [.lit (.bool false)], args := [d1, d2] }
  | _ => none }
def FnIsIdentDependsOnlyOnFirstnessWrongFalsely : Prop := fnIsIdentDependsOnlyOnFirstnessRow.holds Try.pinned (OpenSpec.ofChange fnIsIdentDependsOnlyOnFirstnessWrong)

/- THE SECOND FORM. 'bulk': how many values and letters a reading holds, each counted each time it is reached (what is shared counts as often as it is met; a slice's spare places count too). A statement '..UptoSaid' is the law's where the arguments, and the package variables that the reading takes, are together of bulk at most 1048576: NARROWER than '..Said'. Prove '..Said' where nothing that the law and all that it calls make is longer than what came in: it says more and counts as full. Else prove '..UptoSaid'. A law counts once. -/
mutual
def uptoBulk {H : Type} : DataW H → Nat
  | .lit (.string bytes) => bytes.length + 1
  | .lit _ => 1
  | .nil => 1
  | .ptr d => uptoBulk d + 1
  | .slice elems spare => uptoBulkAll elems + uptoBulkAll spare + 1
  | .agg parts => uptoBulkAll parts + 1
  | .iface _ d => uptoBulk d + 1
  | .map entries => uptoBulkEntries entries + 1
  | .held _ => 1
def uptoBulkAll {H : Type} : List (DataW H) → Nat
  | [] => 0
  | d :: r => uptoBulk d + uptoBulkAll r
def uptoBulkEntries {H : Type} : List (Lit × DataW H) → Nat
  | [] => 0
  | x :: r => uptoBulkEntry x + uptoBulkEntries r
def uptoBulkEntry {H : Type} : Lit × DataW H → Nat
  | (.string bytes, d) => bytes.length + uptoBulk d + 1
  | (_, d) => uptoBulk d + 1
 end
def uptoSmall : (H : Type) → List (DataW H) → Bool := fun _ ds => decide (uptoBulkAll ds ≤ 1048576)
def OpenSpec.upto (s : _root_.Go.ChangeSpec) : _root_.Go.OpenSpec := { _root_.Go.OpenSpec.ofChange s with cond := some uptoSmall }

/-- 'n005_145.FnIsDecimalExact', WHERE WHAT IT READS IS OF BULK AT MOST 1048576: true; the input reads as it did. -/
def fnIsDecimalExactUptoRow : OpenClaim := { program := "ytjjlmjiocpjhcaa", sum := "82d758d65c441c05944044ad6dc27b1980379156a6cd4a0378f04cda68d2cf3f", func := "github.com/yuin/gopher-lua/n005_145.FnIsDecimalExact", spec := "fnIsDecimalExact", apart := false, narrowed := true }
def FnIsDecimalExactUptoSaid : Prop := fnIsDecimalExactUptoRow.holds Try.pinned (OpenSpec.upto fnIsDecimalExactSpec)

/-- 'n005_145.FnIsDigitExact', WHERE WHAT IT READS IS OF BULK AT MOST 1048576: true; the input reads as it did. -/
def fnIsDigitExactUptoRow : OpenClaim := { program := "ytjjlmjiocpjhcaa", sum := "82d758d65c441c05944044ad6dc27b1980379156a6cd4a0378f04cda68d2cf3f", func := "github.com/yuin/gopher-lua/n005_145.FnIsDigitExact", spec := "fnIsDigitExact", apart := false, narrowed := true }
def FnIsDigitExactUptoSaid : Prop := fnIsDigitExactUptoRow.holds Try.pinned (OpenSpec.upto fnIsDigitExactSpec)

/-- 'n005_145.FnIsIdentExact', WHERE WHAT IT READS IS OF BULK AT MOST 1048576: true; the input reads as it did. -/
def fnIsIdentExactUptoRow : OpenClaim := { program := "ytjjlmjiocpjhcaa", sum := "82d758d65c441c05944044ad6dc27b1980379156a6cd4a0378f04cda68d2cf3f", func := "github.com/yuin/gopher-lua/n005_145.FnIsIdentExact", spec := "fnIsIdentExact", apart := false, narrowed := true }
def FnIsIdentExactUptoSaid : Prop := fnIsIdentExactUptoRow.holds Try.pinned (OpenSpec.upto fnIsIdentExactSpec)

/-- 'n005_145.FnIsDecimalIsHexNotIdentHead', WHERE WHAT IT READS IS OF BULK AT MOST 1048576: true; the input reads as it did. -/
def fnIsDecimalIsHexNotIdentHeadUptoRow : OpenClaim := { program := "ytjjlmjiocpjhcaa", sum := "82d758d65c441c05944044ad6dc27b1980379156a6cd4a0378f04cda68d2cf3f", func := "github.com/yuin/gopher-lua/n005_145.FnIsDecimalIsHexNotIdentHead", spec := "fnIsDecimalIsHexNotIdentHead", apart := false, narrowed := true }
def FnIsDecimalIsHexNotIdentHeadUptoSaid : Prop := fnIsDecimalIsHexNotIdentHeadUptoRow.holds Try.pinned (OpenSpec.upto fnIsDecimalIsHexNotIdentHeadSpec)

/-- 'n005_145.FnIsDigitCaseFoldAndIdentTail', WHERE WHAT IT READS IS OF BULK AT MOST 1048576: true; the input reads as it did. -/
def fnIsDigitCaseFoldAndIdentTailUptoRow : OpenClaim := { program := "ytjjlmjiocpjhcaa", sum := "82d758d65c441c05944044ad6dc27b1980379156a6cd4a0378f04cda68d2cf3f", func := "github.com/yuin/gopher-lua/n005_145.FnIsDigitCaseFoldAndIdentTail", spec := "fnIsDigitCaseFoldAndIdentTail", apart := false, narrowed := true }
def FnIsDigitCaseFoldAndIdentTailUptoSaid : Prop := fnIsDigitCaseFoldAndIdentTailUptoRow.holds Try.pinned (OpenSpec.upto fnIsDigitCaseFoldAndIdentTailSpec)

/-- 'n005_145.FnIsIdentDependsOnlyOnFirstness', WHERE WHAT IT READS IS OF BULK AT MOST 1048576: true; the input reads as it did. -/
def fnIsIdentDependsOnlyOnFirstnessUptoRow : OpenClaim := { program := "ytjjlmjiocpjhcaa", sum := "82d758d65c441c05944044ad6dc27b1980379156a6cd4a0378f04cda68d2cf3f", func := "github.com/yuin/gopher-lua/n005_145.FnIsIdentDependsOnlyOnFirstness", spec := "fnIsIdentDependsOnlyOnFirstness", apart := false, narrowed := true }
def FnIsIdentDependsOnlyOnFirstnessUptoSaid : Prop := fnIsIdentDependsOnlyOnFirstnessUptoRow.holds Try.pinned (OpenSpec.upto fnIsIdentDependsOnlyOnFirstnessSpec)

end Rows
end Go.Proofs.Ytjjlmjiocpjhcaa
