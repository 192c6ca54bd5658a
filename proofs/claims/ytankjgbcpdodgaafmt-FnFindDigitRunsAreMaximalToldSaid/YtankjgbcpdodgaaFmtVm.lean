/-
  What the pattern compiler makes of a pattern's items, and how its machine runs: instructions, the relation that follows the compiler, the relation that follows the machine. No condition: definitions and small laws.
-/
import Derived.Test.YtankjgbcpdodgaaFmtPt
import Derived.Test.YtankjgbcpdodgaaFmtMatch
import Derived.Test.YtankjgbcpdodgaaFmtMatchAll
namespace Go.Proofs.YtankjgbcpdodgaaFmt
open Go.RowKit
set_option linter.unusedVariables false
set_option linter.unusedSimpArgs false

/-- An instruction. -/
inductive Ins where
  | chr (c : Cl)
  | mat
  | tmat
  | jmp (a : Nat)
  | split (a b : Nat)
  | save (n : Nat)
  | psave (n : Nat)
  | brace (b e : Int)
  | num (n : Int)

/-- The compiler over items: the instructions so far, the next capture's slot. -/
inductive CRun : List Pt → List Ins → Nat → List Ins → Nat → Prop
  | nil {I k} : CRun [] I k I k
  | one {c ps I k I' k'} : CRun ps (I ++ [.chr c]) k I' k' → CRun (.one c :: ps) I k I' k'
  | star {c ps I k I' k'} : CRun ps (I ++ [.split (I.length + 1) (I.length + 3), .chr c, .jmp I.length]) k I' k' → CRun (.rep 42 c :: ps) I k I' k'
  | plus {c ps I k I' k'} : CRun ps (I ++ [.chr c, .split I.length (I.length + 2)]) k I' k' → CRun (.rep 43 c :: ps) I k I' k'
  | minus {c ps I k I' k'} : CRun ps (I ++ [.split (I.length + 3) (I.length + 1), .chr c, .jmp I.length]) k I' k' → CRun (.rep 45 c :: ps) I k I' k'
  | opt {c ps I k I' k'} : CRun ps (I ++ [.split (I.length + 1) (I.length + 2), .chr c]) k I' k' → CRun (.rep 63 c :: ps) I k I' k'
  | pos {ps I k I' k'} : CRun ps (I ++ [.psave k]) (k + 2) I' k' → CRun (.pos :: ps) I k I' k'
  | cap {l ps I k I1 k1 I' k'} : CRun l (I ++ [.save k]) (k + 2) I1 k1 → CRun ps (I1 ++ [.save (k + 1)]) k1 I' k' → CRun (.cap l :: ps) I k I' k'
  | num {n ps I k I' k'} : CRun ps (I ++ [.num n]) k I' k' → CRun (.num n :: ps) I k I' k'
  | brace {b e ps I k I' k'} : CRun ps (I ++ [.brace b e]) k I' k' → CRun (.brace b e :: ps) I k I' k'

/-- The byte of the source at a place; -1 beyond it. -/
def byteAt (src : List Int) (i : Nat) : Int := if i < src.length then src.getD i 0 else -1

/-- The loop of a balanced match: from the place sp with the count on; some: the place behind the close. -/
def braceRun (src : List Int) (b e : Int) (sp : Nat) (count : Int) : Option Nat :=
  if src.length ≤ sp then none
  else
    let z := byteAt src sp
    let count := if z = e then count - 1 else count
    if count = 0 then some (sp + 1)
    else braceRun src b e (sp + 1) (if z = b then count + 1 else count)
termination_by src.length - sp

/-- The place that a captured word holds. -/
def capV (us : List Int) (i : Nat) : Nat := (us.getD i 0 / 2).toNat

/-- The machine: depth of the recursion that is needed, steps of the frame, the state, how it ends (matched, place, captures). -/
inductive VRun (src : List Int) (I : List Ins) : Nat → Nat → Nat → Nat → List Int → Bool × Nat × List Int → Prop
  | chrNo {d n pc sp us c} : I[pc]? = some (.chr c) → src.length ≤ sp ∨ c.has (byteAt src sp) = false → VRun src I d n pc sp us (false, sp, us)
  | chrYes {d n pc sp us c r} : I[pc]? = some (.chr c) → sp < src.length → c.has (byteAt src sp) = true → VRun src I d n (pc + 1) (sp + 1) us r → VRun src I d (n + 1) pc sp us r
  | mat {d n pc sp us} : I[pc]? = some .mat → VRun src I d n pc sp us (true, sp, us)
  | tmat {d n pc sp us} : I[pc]? = some .tmat → VRun src I d n pc sp us (decide (src.length ≤ sp), sp, us)
  | jmp {d n pc sp us a r} : I[pc]? = some (.jmp a) → VRun src I d n a sp us r → VRun src I d (n + 1) pc sp us r
  | splitA {d n m pc sp us a b sp' us'} : I[pc]? = some (.split a b) → VRun src I d m a sp us (true, sp', us') → VRun src I (d + 1) n pc sp us (true, sp', us')
  | splitB {d n m pc sp us a b sp' us' r} : I[pc]? = some (.split a b) → VRun src I d m a sp us (false, sp', us') → VRun src I (d + 1) n b sp us' r → VRun src I (d + 1) (n + 1) pc sp us r
  | saveYes {d n m pc sp us k sp' us'} : I[pc]? = some (.save k) → VRun src I d m (pc + 1) sp ((ext us (k + 1)).set k (capW sp)) (true, sp', us') → VRun src I (d + 1) n pc sp us (true, sp', us')
  | saveNo {d n m pc sp us k sp' us'} : I[pc]? = some (.save k) → VRun src I d m (pc + 1) sp ((ext us (k + 1)).set k (capW sp)) (false, sp', us') → k < us'.length → VRun src I (d + 1) n pc sp us (false, sp, us'.set k ((ext us (k + 1)).getD k 0))
  | psave {d n pc sp us k r} : I[pc]? = some (.psave k) → VRun src I d n (pc + 1) sp (((ext us (k + 2)).set k (posW (sp + 1))).set (k + 1) (posW (sp + 1))) r → VRun src I d (n + 1) pc sp us r
  | braceNo {d n pc sp us b e} : I[pc]? = some (.brace b e) → src.length ≤ sp ∨ byteAt src sp ≠ b ∨ braceRun src b e (sp + 1) 1 = none → VRun src I d n pc sp us (false, sp, us)
  | braceYes {d n pc sp us b e sp' r} : I[pc]? = some (.brace b e) → sp < src.length → byteAt src sp = b → braceRun src b e (sp + 1) 1 = some sp' → VRun src I d n (pc + 1) sp' us r → VRun src I d (n + 1) pc sp us r
  | numNo {d n pc sp us} {k i : Nat} : I[pc]? = some (.num (k : Int)) → k * 2 + 1 < us.length → capV us (k * 2) ≤ capV us (k * 2 + 1) → capV us (k * 2 + 1) ≤ src.length →
      i < capV us (k * 2 + 1) - capV us (k * 2) → byteAt src (sp + i) ≠ byteAt src (capV us (k * 2) + i) → VRun src I d n pc sp us (false, sp, us)
  | numYes {d n pc sp us r} {k : Nat} : I[pc]? = some (.num (k : Int)) → k * 2 + 1 < us.length → capV us (k * 2) ≤ capV us (k * 2 + 1) → capV us (k * 2 + 1) ≤ src.length →
      (∀ i : Nat, i < capV us (k * 2 + 1) - capV us (k * 2) → byteAt src (sp + i) = byteAt src (capV us (k * 2) + i)) →
      VRun src I d n (pc + 1) (sp + (capV us (k * 2 + 1) - capV us (k * 2))) us r → VRun src I d (n + 1) pc sp us r

end Go.Proofs.YtankjgbcpdodgaaFmt
