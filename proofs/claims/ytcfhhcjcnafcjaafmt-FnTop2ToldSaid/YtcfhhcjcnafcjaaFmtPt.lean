/-
  What the pattern parser makes of the bytes of a pattern: items, the relation that follows the parser's loop, items as they lie in memory. No condition: definitions and small laws.
-/
import Derived.Test.YtcfhhcjcnafcjaaFmtSetM
import Derived.Test.YtcfhhcjcnafcjaaFmtParseSet
namespace Go.Proofs.YtcfhhcjcnafcjaaFmt
open Go.RowKit
set_option linter.unusedVariables false
set_option linter.unusedSimpArgs false

/-- An item of a pattern. -/
inductive Pt where
  | one (c : Cl)
  | rep (t : Int) (c : Cl)
  | pos
  | cap (l : List Pt)
  | num (n : Int)
  | brace (b e : Int)

/-- How the parser ends: items, whether the tail is anchored, the cursor; or an error: its place, which text. -/
inductive PR where
  | ok (l : List Pt) (tail : Bool) (c : Nat)
  | err (p : Int) (m : Nat)

/-- The loop of the parser at the cursor c with the items acc, the tail's flag q. -/
inductive PRun (zs : List Int) : Bool → Nat → List Pt → Bool → PR → Prop
  | fin {top c acc q} : zs.length ≤ c → PRun zs top c acc q (.ok acc q (zs.length + 1))
  | close {c acc q} : chr zs c = 41 → PRun zs false c acc q (.ok acc q c)
  | closeTop {c acc q} : chr zs c = 41 → PRun zs true c acc q (.err (posOf zs.length c) 0)
  | idx {top c acc q} : chr zs c = 37 → chr zs (c + 1) = 48 → PRun zs top c acc q (.err c 1)
  | num {top c acc q r} : chr zs c = 37 → 49 ≤ chr zs (c + 1) → chr zs (c + 1) ≤ 57 → PRun zs top (c + 2) (acc ++ [.num (chr zs (c + 1) - 48)]) q r → PRun zs top c acc q r
  | brace {top c acc q r} : chr zs c = 37 → chr zs (c + 1) = 98 → PRun zs top (min (c + 4) (zs.length + 1)) (acc ++ [.brace (chr zs (c + 2)) (chr zs (c + 3))]) q r → PRun zs top c acc q r
  | esc {top c acc q r} : chr zs c = 37 → ¬ (48 ≤ chr zs (c + 1) ∧ chr zs (c + 1) ≤ 57) → chr zs (c + 1) ≠ 98 → PRun zs top (c + 2) (acc ++ [.one (.el (.sgl (chr zs (c + 1))))]) q r → PRun zs top c acc q r
  | cls {top c acc cl c' q r} : chr zs c = 46 ∨ chr zs c = 91 ∨ chr zs c = 93 → parseCls zs c = some (cl, c') → PRun zs top c' (acc ++ [.one cl]) q r → PRun zs top c acc q r
  | clsErr {top c acc q} : chr zs c = 91 → c + 1 = zs.length → PRun zs top c acc q (.err c 3)
  | posc {top c acc q r} : chr zs c = 40 → chr zs (c + 1) = 41 → PRun zs top (c + 2) (acc ++ [.pos]) q r → PRun zs top c acc q r
  | capt {top c acc l c1 q q1 r} : chr zs c = 40 → chr zs (c + 1) ≠ 41 → PRun zs false (c + 1) [] false (.ok l q1 c1) → chr zs c1 = 41 → PRun zs top (c1 + 1) (acc ++ [.cap l]) q r → PRun zs top c acc q r
  | capOpen {top c acc l c1 q q1} : chr zs c = 40 → chr zs (c + 1) ≠ 41 → PRun zs false (c + 1) [] false (.ok l q1 c1) → chr zs c1 ≠ 41 → PRun zs top c acc q (.err (posOf zs.length c1) 2)
  | capErr {top c acc q p m} : chr zs c = 40 → chr zs (c + 1) ≠ 41 → PRun zs false (c + 1) [] false (.err p m) → PRun zs top c acc q (.err p m)
  | quant {top c acc cl q r} : chr zs c = 42 ∨ chr zs c = 43 ∨ chr zs c = 45 ∨ chr zs c = 63 → PRun zs top (c + 1) (acc ++ [.rep (chr zs c) cl]) q r → PRun zs top c (acc ++ [.one cl]) q r
  | quantLit {top c acc q r} : chr zs c = 42 ∨ chr zs c = 43 ∨ chr zs c = 45 ∨ chr zs c = 63 → (∀ a cl, acc ≠ a ++ [.one cl]) → PRun zs top (c + 1) (acc ++ [.one (.el (.chr (chr zs c)))]) q r → PRun zs top c acc q r
  | tail {c acc q r} : chr zs c = 36 → c + 1 = zs.length → PRun zs true (c + 1) acc true r → PRun zs true c acc q r
  | dollar {top c acc q r} : chr zs c = 36 → ¬ (top = true ∧ c + 1 = zs.length) → PRun zs top (c + 1) (acc ++ [.one (.el (.chr 36))]) q r → PRun zs top c acc q r
  | lit {top c acc q r} : c < zs.length → (∀ z, z ∈ ([37, 46, 91, 93, 41, 40, 42, 43, 45, 63, 36] : List Int) → chr zs c ≠ z) → PRun zs top (c + 1) (acc ++ [.one (.el (.chr (chr zs c)))]) q r → PRun zs top c acc q r

end Go.Proofs.YtcfhhcjcnafcjaaFmt
