/-
  The reference's tokens: what they are, their text, how they lie in memory. No condition: definitions and small laws.
-/
import Derived.Test.YtcfhhcjcnafcjaaFmtSetO
import Derived.Deep.OwnRows
namespace Go.Proofs.YtcfhhcjcnafcjaaFmt
open Go.RowKit
set_option linter.unusedVariables false
set_option linter.unusedSimpArgs false

/-- An item of a set. -/
inductive SI where
  | chr (z : Int)
  | rng (a b : Int)
  | esc (z : Int)
/-- A class. -/
inductive CK where
  | lit (z : Int)
  | dot
  | esc (z : Int)
  | set (neg : Bool) (l : List SI)
/-- A token. -/
inductive Tk where
  | cls (c : CK) (q : Int)
  | opn (n : Nat)
  | clo (n : Nat)
  | pos (n : Nat)
  | ref (n : Nat)
  | brc (x y : Int)
/-- The letters and signs that may stand behind '%'. -/
def picks : List Int := [97, 99, 100, 108, 112, 115, 117, 119, 120, 122, 65, 67, 68, 76, 80, 83, 85, 87, 88, 90, 46, 37, 40, 41, 91, 93, 42, 43, 45, 63, 94, 36]
def lits13 : List Int := [97, 98, 99, 120, 121, 122, 48, 49, 32, 95, 65, 0, 255]
def sets10 : List Int := [97, 98, 99, 120, 121, 122, 48, 49, 46, 95]
def rngs6 : List (Int × Int) := [(97, 99), (120, 122), (48, 57), (98, 98), (99, 97), (65, 90)]
def brcs4 : List (Int × Int) := [(40, 41), (97, 98), (97, 97), (91, 93)]
def SI.ok : SI → Prop
  | .chr z => z ∈ sets10
  | .rng a b => (a, b) ∈ rngs6
  | .esc z => z ∈ picks
def CK.ok : CK → Prop
  | .lit z => z ∈ lits13
  | .dot => True
  | .esc z => z ∈ picks
  | .set _ l => l ≠ [] ∧ l.length ≤ 4 ∧ ∀ i, i ∈ l → i.ok
def SI.txt : SI → List Int
  | .chr z => [z]
  | .rng a b => [a, 45, b]
  | .esc z => [37, z]
def CK.txt : CK → List Int
  | .lit z => [z]
  | .dot => [46]
  | .esc z => [37, z]
  | .set neg l => 91 :: (if neg then [94] else []) ++ l.flatMap SI.txt ++ [93]
def qtxt (q : Int) : List Int := if q = 0 then [] else [q]
def Tk.txt : Tk → List Int
  | .cls c q => c.txt ++ qtxt q
  | .opn _ => [40]
  | .clo _ => [41]
  | .pos _ => [40, 41]
  | .ref n => [37, 48 + (n : Int)]
  | .brc x y => [37, 98, x, y]
def txts (l : List Tk) : List Int := l.flatMap Tk.txt
theorem txts_app (a b : List Tk) : txts (a ++ b) = txts a ++ txts b := by simp [txts]
theorem txts_one (t : Tk) : txts [t] = t.txt := by simp [txts]

/-- The three cells of an item. -/
def SI.cells : SI → List Value
  | .chr z => [.int .i64 0, .int .i64 z, .int .i64 0]
  | .rng a b => [.int .i64 1, .int .i64 a, .int .i64 b]
  | .esc z => [.int .i64 2, .int .i64 z, .int .i64 0]
def sicells (l : List SI) : List Value := l.flatMap SI.cells
theorem sicells_app (a b : List SI) : sicells (a ++ b) = sicells a ++ sicells b := by simp [sicells]
theorem sicells_one (i : SI) : sicells [i] = i.cells := by simp [sicells]
/-- The items of a set as they lie. -/
def ItsAt (w : World) (B : Nat) (ao : Option Addr) (cap : Nat) (l : List SI) : Prop := w.ownsRow B 84 3 (.slice ao l.length cap) l.length (sicells l)
/-- The four cells of a class. -/
inductive CkAt (w : World) (B : Nat) : CK → List Value → Prop
  | lit {z : Int} : CkAt w B (.lit z) [.int .i64 0, .int .i64 z, .bool false, .slice none 0 0]
  | dot : CkAt w B .dot [.int .i64 1, .int .i64 0, .bool false, .slice none 0 0]
  | esc {z : Int} : CkAt w B (.esc z) [.int .i64 2, .int .i64 z, .bool false, .slice none 0 0]
  | set {neg : Bool} {l : List SI} {ao : Option Addr} {cap : Nat} : ItsAt w B ao cap l → CkAt w B (.set neg l) [.int .i64 3, .int .i64 0, .bool neg, .slice ao l.length cap]
/-- The eight cells of a token. -/
inductive TkAt (w : World) (B : Nat) : Tk → List Value → Prop
  | cls {c : CK} {q : Int} {xs : List Value} : CkAt w B c xs → TkAt w B (.cls c q) (.int .i64 0 :: xs ++ [.int .u8 q, .int .i64 0, .int .i64 0])
  | opn {n : Nat} : TkAt w B (.opn n) [.int .i64 1, .int .i64 0, .int .i64 0, .bool false, .slice none 0 0, .int .u8 0, .int .i64 n, .int .i64 0]
  | clo {n : Nat} : TkAt w B (.clo n) [.int .i64 2, .int .i64 0, .int .i64 0, .bool false, .slice none 0 0, .int .u8 0, .int .i64 n, .int .i64 0]
  | pos {n : Nat} : TkAt w B (.pos n) [.int .i64 3, .int .i64 0, .int .i64 0, .bool false, .slice none 0 0, .int .u8 0, .int .i64 n, .int .i64 0]
  | ref {n : Nat} : TkAt w B (.ref n) [.int .i64 4, .int .i64 0, .int .i64 0, .bool false, .slice none 0 0, .int .u8 0, .int .i64 n, .int .i64 0]
  | brc {x y : Int} : TkAt w B (.brc x y) [.int .i64 5, .int .i64 0, .int .i64 0, .bool false, .slice none 0 0, .int .u8 0, .int .i64 x, .int .i64 y]
/-- Blocks of set items stay as they are. -/
def ItsKept (w w' : World) (B : Nat) : Prop := ∀ g cs r, B ≤ g → w.heap[g]? = some (.cells cs 84 r) → w'.heap[g]? = some (.cells cs 84 r)
theorem ItsKept.refl (w : World) (B : Nat) : ItsKept w w B := fun _ _ _ _ h => h
theorem ItsKept.trans {a b c : World} {B : Nat} (h : ItsKept a b B) (k : ItsKept b c B) : ItsKept a c B := fun g cs r hB h1 => k g cs r hB (h g cs r hB h1)
theorem ItsAt.kept {w w' : World} {B : Nat} {ao : Option Addr} {cap : Nat} {l : List SI} (h : ItsAt w B ao cap l) (hk : ItsKept w w' B) : ItsAt w' B ao cap l := by
  refine owns_kept h fun g o hg ho => ?_
  obtain ⟨c, hc⟩ := own_type h g hg
  have hB := (owns_lt h g hg).1
  rw [ho] at hc
  injection hc with hc
  subst hc
  exact hk g c _ hB ho
theorem CkAt.kept {w w' : World} {B : Nat} {c : CK} {xs : List Value} (h : CkAt w B c xs) (hk : ItsKept w w' B) : CkAt w' B c xs := by
  cases h with
  | lit => exact .lit
  | dot => exact .dot
  | esc => exact .esc
  | set h => exact .set (h.kept hk)
theorem CkAt.four {w : World} {B : Nat} {c : CK} {xs : List Value} (h : CkAt w B c xs) : xs.length = 4 := by cases h <;> rfl
theorem CkAt.one {w : World} {B : Nat} {c : CK} {xs : List Value} (h : CkAt w B c xs) : ∀ u ∈ xs, u.oneCell' = true := by
  cases h <;> (intro u hu; simp at hu; rcases hu with rfl | rfl | rfl | rfl <;> rfl)
theorem TkAt.kept {w w' : World} {B : Nat} {t : Tk} {xs : List Value} (h : TkAt w B t xs) (hk : ItsKept w w' B) : TkAt w' B t xs := by
  cases h with
  | cls h => exact .cls (h.kept hk)
  | opn => exact .opn
  | clo => exact .clo
  | pos => exact .pos
  | ref => exact .ref
  | brc => exact .brc
theorem TkAt.eight {w : World} {B : Nat} {t : Tk} {xs : List Value} (h : TkAt w B t xs) : xs.length = 8 := by
  cases h with
  | cls h => simp [h.four]
  | _ => rfl
/-- Tokens one after the other. -/
inductive TksAt (w : World) (B : Nat) : List Tk → List Value → Prop
  | nil : TksAt w B [] []
  | cons {t ts xs ys} : TkAt w B t xs → TksAt w B ts ys → TksAt w B (t :: ts) (xs ++ ys)
theorem TksAt.kept {w w' : World} {B : Nat} {ts : List Tk} {xs : List Value} (h : TksAt w B ts xs) (hk : ItsKept w w' B) : TksAt w' B ts xs := by
  induction h with
  | nil => exact .nil
  | cons h _ ih => exact .cons (h.kept hk) ih
theorem TksAt.append {w : World} {B : Nat} {ts us : List Tk} {xs ys : List Value} (h : TksAt w B ts xs) (k : TksAt w B us ys) : TksAt w B (ts ++ us) (xs ++ ys) := by
  induction h with
  | nil => exact k
  | cons h1 _ ih => rw [List.append_assoc]; exact .cons h1 ih
theorem TksAt.one {w : World} {B : Nat} {t : Tk} {xs : List Value} (h : TkAt w B t xs) : TksAt w B [t] xs := by
  have := TksAt.cons h .nil
  rwa [List.append_nil] at this
theorem TksAt.length {w : World} {B : Nat} {ts : List Tk} {xs : List Value} (h : TksAt w B ts xs) : xs.length = ts.length * 8 := by
  induction h with
  | nil => rfl
  | cons h1 _ ih => rw [List.length_append, h1.eight, ih, List.length_cons]; omega

/-- A reader of bytes at the block r: it reads bytes that lie below B. -/
def RdAt (w : World) (B r : Nat) : Prop :=
  ∃ (a : Option Addr) (zs : List Int) (cap i : Nat), w.heap[r]? = some (.cells #[.slice a zs.length cap, .int .i64 (i : Int)] 50 (0, 0)) ∧ RowInt .u8 w a zs ∧ (∀ x, a = some x → x.block < B) ∧ (∀ z, z ∈ zs → 0 ≤ z ∧ z ≤ 255) ∧ zs.length ≤ 1048576 ∧ B ≤ r ∧ i ≤ zs.length
theorem RdAt.kept {w w' : World} {B r : Nat} (h : RdAt w B r) (hk : w'.heap[r]? = w.heap[r]?) (hb : ∀ k, k < B → w'.heap[k]? = w.heap[k]?) : RdAt w' B r := by
  obtain ⟨a, zs, cap, i, h1, h2, h3, h4⟩ := h
  refine ⟨a, zs, cap, i, hk.trans h1, fun h0 => ?_, h3, h4⟩
  obtain ⟨sb, so, e, hc⟩ := h2 h0
  exact ⟨sb, so, e, fun j hj => (World.cell?_of_block (hb sb (h3 _ e))).trans (hc j hj)⟩
theorem RdAt.grown {w w' : World} {B r : Nat} (h : RdAt w B r) {g : Option Nat} (hg : w.grownBy w' g) (hr : g ≠ some r) (hB : ∀ x, g = some x → B ≤ x) (hs : B ≤ w.heap.size) : RdAt w' B r := by
  have hlt : r < w.heap.size := by obtain ⟨_, _, _, _, h1, _⟩ := h; exact blk_lt h1
  exact h.kept (hg.block r hlt (fun e => hr e.symm)) (fun k hk => hg.block k (by omega) (fun e => by have := hB k e.symm; omega))
end Go.Proofs.YtcfhhcjcnafcjaaFmt
