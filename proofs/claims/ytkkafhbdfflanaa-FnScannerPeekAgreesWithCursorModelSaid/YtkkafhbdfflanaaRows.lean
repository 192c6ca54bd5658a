/-
  No cell of these rows narrows 'for every input' (looked for: loops, veiled, ifaces, maps, wideKeys, modest, calm, conditions, laid).
  DERIVED. THE GIVEN ROWS OF THIS SEAT. 4 by the template 'for every input the law returns true; each argument reads behind the call as it read before'; 0 by the template 'total and deterministic' (their statements: YtkkafhbdfflanaaTotals.lean).
  GIVEN WITH THE SEED: the statements are not yours to turn. If you find one false, say at which input.
  Laid BY PROGRAM, IN A SANDBOX (cutbox-rows.mjs): the forced cells as the released guide's own fill.sh prints them over the translation e4b1f682d0b6a0e0… (all of the seat's roots in one cut). By AI agents, Wed Nov 11 2026. No macro, syntax, notation, axiom, sorry.
-/
import Derived.Test.YtkkafhbdfflanaaChecked
import GoSem.Claim
import GoSem.ClaimJoined
import GoSem.ClaimMapViews
import Derived.JoinedTies
import Derived.KernelRfl
namespace Go.Proofs.Ytkkafhbdfflanaa
/- THE CELL 'sum', in the pinned program and in every row, IS THE sha256 OF THE DUMP (.gsa) THAT YtkkafhbdfflanaaProg.lean LOADS. Nothing in Lean hashes anything: it is a label: what it is worth is what the hold of that sum in a sandbox is worth. -/
noncomputable def Try.pinned : Pinned := { name := "ytkkafhbdfflanaa", sum := "e4b1f682d0b6a0e0e6ed6d7cb01948c784c13980cc497c8db5854758adeb01db", checked := Try.checked }
namespace Rows
def none {H : Type} : Left H := { results := [], args := [] }

/-- 'n005_2.FnSingleClassUpperIsComplement': WHATEVER THE INPUT: true; the input reads as it did. -/
def fnSingleClassUpperIsComplementSpec : ChangeSpec := { name := "fnSingleClassUpperIsComplement", fn := fun _ => fun
  | [d1, d2] => { results := [.lit (.bool true)], args := [d1, d2] }
  | _ => none }
def fnSingleClassUpperIsComplementRow : OpenClaim := { program := "ytkkafhbdfflanaa", sum := "e4b1f682d0b6a0e0e6ed6d7cb01948c784c13980cc497c8db5854758adeb01db", func := "github.com/yuin/gopher-lua/n005_2.FnSingleClassUpperIsComplement", spec := "fnSingleClassUpperIsComplement", apart := false }
def FnSingleClassUpperIsComplementSaid : Prop := fnSingleClassUpperIsComplementRow.holds Try.pinned (OpenSpec.ofChange fnSingleClassUpperIsComplementSpec)

/-- ITS FALSE NEIGHBOUR: 'it returns false'. Refute it at one input. -/
def fnSingleClassUpperIsComplementWrong : ChangeSpec := { name := "fnSingleClassUpperIsComplement", fn := fun _ => fun
  | [d1, d2] => { results := [.lit (.bool false)], args := [d1, d2] }
  | _ => none }
def FnSingleClassUpperIsComplementWrongFalsely : Prop := fnSingleClassUpperIsComplementRow.holds Try.pinned (OpenSpec.ofChange fnSingleClassUpperIsComplementWrong)

/-- 'n005_2.FnSingleClassAgreesWithLiteralLists': WHATEVER THE INPUT: true; the input reads as it did. -/
def fnSingleClassAgreesWithLiteralListsSpec : ChangeSpec := { name := "fnSingleClassAgreesWithLiteralLists", fn := fun _ => fun
  | [d] => { results := [.lit (.bool true)], args := [d] }
  | _ => none }
def fnSingleClassAgreesWithLiteralListsRow : OpenClaim := { program := "ytkkafhbdfflanaa", sum := "e4b1f682d0b6a0e0e6ed6d7cb01948c784c13980cc497c8db5854758adeb01db", func := "github.com/yuin/gopher-lua/n005_2.FnSingleClassAgreesWithLiteralLists", spec := "fnSingleClassAgreesWithLiteralLists", apart := false }
def FnSingleClassAgreesWithLiteralListsSaid : Prop := fnSingleClassAgreesWithLiteralListsRow.holds Try.pinned (OpenSpec.ofChange fnSingleClassAgreesWithLiteralListsSpec)

/-- ITS FALSE NEIGHBOUR: 'it returns false'. Refute it at one input. -/
def fnSingleClassAgreesWithLiteralListsWrong : ChangeSpec := { name := "fnSingleClassAgreesWithLiteralLists", fn := fun _ => fun
  | [d] => { results := [.lit (.bool false)], args := [d] }
  | _ => none }
def FnSingleClassAgreesWithLiteralListsWrongFalsely : Prop := fnSingleClassAgreesWithLiteralListsRow.holds Try.pinned (OpenSpec.ofChange fnSingleClassAgreesWithLiteralListsWrong)

/-- 'n005_2.FnScannerPeekAgreesWithCursorModel': WHATEVER THE INPUT: true; the input reads as it did. -/
def fnScannerPeekAgreesWithCursorModelSpec : ChangeSpec := { name := "fnScannerPeekAgreesWithCursorModel", fn := fun _ => fun
  | [d1, d2] => { results := [.lit (.bool true)], args := [d1, d2] }
  | _ => none }
def fnScannerPeekAgreesWithCursorModelRow : OpenClaim := { program := "ytkkafhbdfflanaa", sum := "e4b1f682d0b6a0e0e6ed6d7cb01948c784c13980cc497c8db5854758adeb01db", func := "github.com/yuin/gopher-lua/n005_2.FnScannerPeekAgreesWithCursorModel", spec := "fnScannerPeekAgreesWithCursorModel", apart := false }
def FnScannerPeekAgreesWithCursorModelSaid : Prop := fnScannerPeekAgreesWithCursorModelRow.holds Try.pinned (OpenSpec.ofChange fnScannerPeekAgreesWithCursorModelSpec)

/-- ITS FALSE NEIGHBOUR: 'it returns false'. Refute it at one input. -/
def fnScannerPeekAgreesWithCursorModelWrong : ChangeSpec := { name := "fnScannerPeekAgreesWithCursorModel", fn := fun _ => fun
  | [d1, d2] => { results := [.lit (.bool false)], args := [d1, d2] }
  | _ => none }
def FnScannerPeekAgreesWithCursorModelWrongFalsely : Prop := fnScannerPeekAgreesWithCursorModelRow.holds Try.pinned (OpenSpec.ofChange fnScannerPeekAgreesWithCursorModelWrong)

/-- 'n005_2.FnSingleClassLattice': WHATEVER THE INPUT: true; the input reads as it did. -/
def fnSingleClassLatticeSpec : ChangeSpec := { name := "fnSingleClassLattice", fn := fun _ => fun
  | [d] => { results := [.lit (.bool true)], args := [d] }
  | _ => none }
def fnSingleClassLatticeRow : OpenClaim := { program := "ytkkafhbdfflanaa", sum := "e4b1f682d0b6a0e0e6ed6d7cb01948c784c13980cc497c8db5854758adeb01db", func := "github.com/yuin/gopher-lua/n005_2.FnSingleClassLattice", spec := "fnSingleClassLattice", apart := false }
def FnSingleClassLatticeSaid : Prop := fnSingleClassLatticeRow.holds Try.pinned (OpenSpec.ofChange fnSingleClassLatticeSpec)

/-- ITS FALSE NEIGHBOUR: 'it returns false'. Refute it at one input. -/
def fnSingleClassLatticeWrong : ChangeSpec := { name := "fnSingleClassLattice", fn := fun _ => fun
  | [d] => { results := [.lit (.bool false)], args := [d] }
  | _ => none }
def FnSingleClassLatticeWrongFalsely : Prop := fnSingleClassLatticeRow.holds Try.pinned (OpenSpec.ofChange fnSingleClassLatticeWrong)

/- THE SECOND FORM. 'bulk': how many values and letters a reading holds, each counted each time it is reached (what is shared counts as often as it is met; a slice's spare places count too). A statement '..UptoSaid' is the law's where the arguments, and the package variables that the reading takes, are together of bulk at most 1048576: NARROWER than '..Said'. Prove '..Said' where nothing that the law and all that it calls make is longer than what came in: it says more and counts as full. Else prove '..UptoSaid'. A law counts once. -/
mutual
def uptoBulk {H : Type} : DataW H → Nat
  | .lit (.string bytes) => bytes.length + 1
  | .lit _ => 1
  | .nil => 1
  | .ptr d => uptoBulk d + 1
  | .slice elems spare => uptoBulkAll elems + uptoBulkAll spare + 1
  | .agg parts => uptoBulkAll parts + 1
  | .iface _ d => uptoBulk d + 1
  | .map entries => uptoBulkEntries entries + 1
  | .held _ => 1
def uptoBulkAll {H : Type} : List (DataW H) → Nat
  | [] => 0
  | d :: r => uptoBulk d + uptoBulkAll r
def uptoBulkEntries {H : Type} : List (Lit × DataW H) → Nat
  | [] => 0
  | x :: r => uptoBulkEntry x + uptoBulkEntries r
def uptoBulkEntry {H : Type} : Lit × DataW H → Nat
  | (.string bytes, d) => bytes.length + uptoBulk d + 1
  | (_, d) => uptoBulk d + 1
 end
def uptoSmall : (H : Type) → List (DataW H) → Bool := fun _ ds => decide (uptoBulkAll ds ≤ 1048576)
def OpenSpec.upto (s : _root_.Go.ChangeSpec) : _root_.Go.OpenSpec := { _root_.Go.OpenSpec.ofChange s with cond := some uptoSmall }

/-- 'n005_2.FnSingleClassUpperIsComplement', WHERE WHAT IT READS IS OF BULK AT MOST 1048576: true; the input reads as it did. -/
def fnSingleClassUpperIsComplementUptoRow : OpenClaim := { program := "ytkkafhbdfflanaa", sum := "e4b1f682d0b6a0e0e6ed6d7cb01948c784c13980cc497c8db5854758adeb01db", func := "github.com/yuin/gopher-lua/n005_2.FnSingleClassUpperIsComplement", spec := "fnSingleClassUpperIsComplement", apart := false, narrowed := true }
def FnSingleClassUpperIsComplementUptoSaid : Prop := fnSingleClassUpperIsComplementUptoRow.holds Try.pinned (OpenSpec.upto fnSingleClassUpperIsComplementSpec)

/-- 'n005_2.FnSingleClassAgreesWithLiteralLists', WHERE WHAT IT READS IS OF BULK AT MOST 1048576: true; the input reads as it did. -/
def fnSingleClassAgreesWithLiteralListsUptoRow : OpenClaim := { program := "ytkkafhbdfflanaa", sum := "e4b1f682d0b6a0e0e6ed6d7cb01948c784c13980cc497c8db5854758adeb01db", func := "github.com/yuin/gopher-lua/n005_2.FnSingleClassAgreesWithLiteralLists", spec := "fnSingleClassAgreesWithLiteralLists", apart := false, narrowed := true }
def FnSingleClassAgreesWithLiteralListsUptoSaid : Prop := fnSingleClassAgreesWithLiteralListsUptoRow.holds Try.pinned (OpenSpec.upto fnSingleClassAgreesWithLiteralListsSpec)

/-- 'n005_2.FnScannerPeekAgreesWithCursorModel', WHERE WHAT IT READS IS OF BULK AT MOST 1048576: true; the input reads as it did. -/
def fnScannerPeekAgreesWithCursorModelUptoRow : OpenClaim := { program := "ytkkafhbdfflanaa", sum := "e4b1f682d0b6a0e0e6ed6d7cb01948c784c13980cc497c8db5854758adeb01db", func := "github.com/yuin/gopher-lua/n005_2.FnScannerPeekAgreesWithCursorModel", spec := "fnScannerPeekAgreesWithCursorModel", apart := false, narrowed := true }
def FnScannerPeekAgreesWithCursorModelUptoSaid : Prop := fnScannerPeekAgreesWithCursorModelUptoRow.holds Try.pinned (OpenSpec.upto fnScannerPeekAgreesWithCursorModelSpec)

/-- 'n005_2.FnSingleClassLattice', WHERE WHAT IT READS IS OF BULK AT MOST 1048576: true; the input reads as it did. -/
def fnSingleClassLatticeUptoRow : OpenClaim := { program := "ytkkafhbdfflanaa", sum := "e4b1f682d0b6a0e0e6ed6d7cb01948c784c13980cc497c8db5854758adeb01db", func := "github.com/yuin/gopher-lua/n005_2.FnSingleClassLattice", spec := "fnSingleClassLattice", apart := false, narrowed := true }
def FnSingleClassLatticeUptoSaid : Prop := fnSingleClassLatticeUptoRow.holds Try.pinned (OpenSpec.upto fnSingleClassLatticeSpec)

end Rows
end Go.Proofs.Ytkkafhbdfflanaa
