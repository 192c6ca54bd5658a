/-
  Instructions, and the relation that follows the compiler of a pattern's items. No condition: definitions.
-/
import Derived.Test.YtejankffdmahnaaFmtPt
namespace Go.Proofs.YtejankffdmahnaaFmt
open Go.RowKit
set_option linter.unusedVariables false
set_option linter.unusedSimpArgs false

/-- An instruction. -/
inductive Ins where
  | chr (c : Cl)
  | mat
  | tmat
  | jmp (a : Nat)
  | split (a b : Nat)
  | save (n : Nat)
  | psave (n : Nat)
  | brace (b e : Int)
  | num (n : Int)

/-- The compiler over items: the instructions so far, the next capture's slot. -/
inductive CRun : List Pt → List Ins → Nat → List Ins → Nat → Prop
  | nil {I k} : CRun [] I k I k
  | one {c ps I k I' k'} : CRun ps (I ++ [.chr c]) k I' k' → CRun (.one c :: ps) I k I' k'
  | star {c ps I k I' k'} : CRun ps (I ++ [.split (I.length + 1) (I.length + 3), .chr c, .jmp I.length]) k I' k' → CRun (.rep 42 c :: ps) I k I' k'
  | plus {c ps I k I' k'} : CRun ps (I ++ [.chr c, .split I.length (I.length + 2)]) k I' k' → CRun (.rep 43 c :: ps) I k I' k'
  | minus {c ps I k I' k'} : CRun ps (I ++ [.split (I.length + 3) (I.length + 1), .chr c, .jmp I.length]) k I' k' → CRun (.rep 45 c :: ps) I k I' k'
  | opt {c ps I k I' k'} : CRun ps (I ++ [.split (I.length + 1) (I.length + 2), .chr c]) k I' k' → CRun (.rep 63 c :: ps) I k I' k'
  | pos {ps I k I' k'} : CRun ps (I ++ [.psave k]) (k + 2) I' k' → CRun (.pos :: ps) I k I' k'
  | cap {l ps I k I1 k1 I' k'} : CRun l (I ++ [.save k]) (k + 2) I1 k1 → CRun ps (I1 ++ [.save (k + 1)]) k1 I' k' → CRun (.cap l :: ps) I k I' k'
  | num {n ps I k I' k'} : CRun ps (I ++ [.num n]) k I' k' → CRun (.num n :: ps) I k I' k'
  | brace {b e ps I k I' k'} : CRun ps (I ++ [.brace b e]) k I' k' → CRun (.brace b e :: ps) I k I' k'

end Go.Proofs.YtejankffdmahnaaFmt
