/-
  Frames as they come in: five cells each; what the laws' bounds say of them; the contract of zzTail. Conditions as each states.
-/
import Derived.Test.YtjbehcabekkjdaaFmtMem
import Derived.BigGuardPart
namespace Go.Proofs.YtjbehcabekkjdaaFmt
open Go.RowKit
set_option linter.unusedVariables false
set_option linter.unusedSimpArgs false

/-- A frame as the laws describe it. -/
structure Fr where
  g : Bool
  line : Int
  tail : Int
  name : ByteArray
  cpc : Int
instance : Inhabited Fr := ⟨⟨false, 0, 0, ByteArray.empty, 0⟩⟩
/-- A frame's cells. -/
def Fr.cells (f : Fr) : List Value := [.bool f.g, .int .i64 f.line, .int .i64 f.tail, .string f.name, .int .i64 f.cpc]
def FrAt (w : World) (b o : Nat) (f : Fr) : Prop :=
  w.cell? ⟨b, o, none⟩ = some (.bool f.g) ∧ w.cell? ⟨b, o + 1, none⟩ = some (.int .i64 f.line) ∧ w.cell? ⟨b, o + 2, none⟩ = some (.int .i64 f.tail) ∧ w.cell? ⟨b, o + 3, none⟩ = some (.string f.name) ∧ w.cell? ⟨b, o + 4, none⟩ = some (.int .i64 f.cpc)
theorem FrAt.kept {w w' : World} {b o : Nat} {f : Fr} (h : FrAt w b o f) (hk : ∀ i, w.cell? ⟨b, i, none⟩ ≠ none → w'.cell? ⟨b, i, none⟩ = w.cell? ⟨b, i, none⟩) : FrAt w' b o f :=
  ⟨(hk _ (by rw [h.1]; simp)).trans h.1, (hk _ (by rw [h.2.1]; simp)).trans h.2.1, (hk _ (by rw [h.2.2.1]; simp)).trans h.2.2.1, (hk _ (by rw [h.2.2.2.1]; simp)).trans h.2.2.2.1, (hk _ (by rw [h.2.2.2.2]; simp)).trans h.2.2.2.2⟩
/-- Frames one after the other from the address a on (nothing is said of a where there are none). -/
def FrsAt (w : World) (a : Option Addr) (fs : List Fr) : Prop :=
  0 < fs.length → ∃ b off, a = some ⟨b, off, none⟩ ∧ b < w.heap.size ∧ ∀ i, i < fs.length → FrAt w b (off + i * 5) fs[i]!
theorem FrsAt.below {w w' : World} {a : Option Addr} {fs : List Fr} {B : Nat} (h : FrsAt w a fs) (hb : Below B w w') (hB : w.heap.size ≤ B) : FrsAt w' a fs := fun h0 => by
  obtain ⟨b, off, h1, hl, h2⟩ := h h0
  exact ⟨b, off, h1, Nat.lt_of_lt_of_le hl hb.size, fun i hi => (h2 i hi).kept fun j _ => hb.cell (p := ⟨b, j, none⟩) (Nat.lt_of_lt_of_le hl hB)⟩
theorem FrsAt.take {w : World} {a : Option Addr} {fs : List Fr} (h : FrsAt w a fs) (n : Nat) : FrsAt w a (fs.take n) := fun h0 => by
  rw [List.length_take] at h0
  obtain ⟨b, off, h1, hl, h2⟩ := h (by omega)
  refine ⟨b, off, h1, hl, fun i hi => ?_⟩
  rw [List.length_take] at hi
  have := h2 i (by omega)
  rwa [show (fs.take n)[i]! = fs[i]! by rw [getElem!_pos _ _ (by rw [List.length_take]; omega), getElem!_pos _ _ (by omega), List.getElem_take]]
def tailF (f : Fr) : Int := if f.g then 0 else f.tail
/-- The bounds that zzBytes lays. -/
def Names (fs : List Fr) (src : ByteArray) : Prop := fs.length ≤ 1048576 ∧ src.size ≤ 1048576 ∧ ∀ i, i < fs.length → fs[i]!.name.size ≤ 1048576
def sumT (fs : List Fr) : Int := (fs.map tailF).foldr (· + ·) 0
theorem sumT_snoc (fs : List Fr) (f : Fr) : sumT (fs ++ [f]) = sumT fs + tailF f := by
  unfold sumT
  induction fs with
  | nil => simp
  | cons x xs ih => simp only [List.cons_append, List.map_cons, List.foldr_cons, ih]; omega
theorem take_snocF (fs : List Fr) (k : Nat) (h : k < fs.length) : fs.take (k + 1) = fs.take k ++ [fs[k]!] := by
  rw [List.take_succ_eq_append_getElem h, getElem!_pos fs k h]
/-- The bounds that zzFramesOK lays. -/
def Framed (fs : List Fr) (src : ByteArray) : Prop := fs.length ≤ 4096 ∧ src.size ≤ 65536 ∧ (∀ i, i < fs.length → 0 ≤ tailF fs[i]! ∧ tailF fs[i]! ≤ 65536) ∧ sumT fs ≤ 65536
/-- A bool whose truth lays a bound; the memory stands. -/
def SomeB (P : Prop) (w : World) (e : Ending) (w' : World) : Prop := ∃ v : Bool, e = .returned (.bool v) ∧ (v = true → P) ∧ w = w'

theorem someB_no {P : Prop} {w : World} : SomeB P w (.returned (.bool false)) w := ⟨false, rfl, (fun h => by cases h), rfl⟩
theorem someB_yes {P : Prop} {w : World} (h : P) : SomeB P w (.returned (.bool true)) w := ⟨true, rfl, fun _ => h, rfl⟩
theorem tail_any (f : Fr) (w : World) : Calls Tryf.prog 27 #[.agg #[.bool f.g, .int .i64 f.line, .int .i64 f.tail, .string f.name, .int .i64 f.cpc]] w fun e w' => e = .returned (.int .i64 (tailF f)) ∧ w' = w.alloc (.cells #[.bool f.g, .int .i64 f.line, .int .i64 f.tail, .string f.name, .int .i64 f.cpc] 41) := by
  unfold tailF
  obtain ⟨g, l, t, n, c⟩ := f
  cases g
  all_goals
    go_enter Tryf.func27, Tryf.ntmps27
    go_wp2_with fail
    go_ret
    exact ⟨rfl, rfl⟩
end Go.Proofs.YtjbehcabekkjdaaFmt
