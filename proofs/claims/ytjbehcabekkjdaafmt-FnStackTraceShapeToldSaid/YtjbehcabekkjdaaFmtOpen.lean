/-
  Frames that come in as an argument: what lies in memory. No condition beyond what each states.
-/
import Derived.Test.YtjbehcabekkjdaaFmtFr
import Derived.Deep.Slices
import Derived.ChangeSame
import Derived.OpenShut
import Derived.KernelRfl
namespace Go.Proofs.YtjbehcabekkjdaaFmt
open Go.ChangeShapes Go.WideShapes Go.RowKit Go.Deep
set_option linter.unusedVariables false
set_option linter.unusedSimpArgs false

/-- What a frame that comes in is bound by. -/
def FrW (f : Fr) : Prop := f.name.size ≤ maxLen ∧ (Lit.int .i64 f.line).wf = true ∧ (Lit.int .i64 f.tail).wf = true ∧ (Lit.int .i64 f.cpc).wf = true
/-- Frames that come in: a slice's row, or nil. -/
def FrsIn (w : World) (a : Option Addr) (cap : Nat) (fs : List Fr) : Prop := FrsAt w a fs ∧ (a = none → fs.length = 0) ∧ fs.length ≤ maxLen ∧ ∀ i, i < fs.length → FrW fs[i]!
section
variable {H : Type} {enc : TypeId × Value → H} {w : World} {base : Nat} {spare : Nat → Bool} {held : Bool}
set_option maxRecDepth 100000 in
theorem fr_open {n : Nat} {cs : List Value} {x : DataW H × List MemPlace} (h : DataW.trod enc Tryf.prog w base spare held n 41 cs = some x) : ∃ f : Fr, cs = f.cells ∧ FrW f := by
  obtain ⟨xs, m, rfl, hx, hl, hxl, hf⟩ := DataW.trod_struct Tryf.underlying41 h
  have hl5 : cs.length = 5 := hl.trans (by kernel_rfl)
  have hx5 : xs.length = 5 := hxl
  have z4 : Tryf.prog.cellsOf 4 = 1 := by kernel_rfl
  have z3 : Tryf.prog.cellsOf 3 = 1 := by kernel_rfl
  have z9 : Tryf.prog.cellsOf 9 = 1 := by kernel_rfl
  match cs, hl5 with
  | [c0, c1, c2, c3, c4], _ =>
    match xs, hx5 with
    | [x0, x1, x2, x3, x4], _ =>
      have f0 : DataW.trod enc Tryf.prog w base spare held m 4 [c0] = some x0 := by have h := hf 0 _ rfl; simpa [z4] using h
      have f1 : DataW.trod enc Tryf.prog w base spare held m 3 [c1] = some x1 := by have h := hf 1 _ rfl; simpa [z3] using h
      have f2 : DataW.trod enc Tryf.prog w base spare held m 3 [c2] = some x2 := by have h := hf 2 _ rfl; simpa [z3] using h
      have f3 : DataW.trod enc Tryf.prog w base spare held m 9 [c3] = some x3 := by have h := hf 3 _ rfl; simpa [z9] using h
      have f4 : DataW.trod enc Tryf.prog w base spare held m 3 [c4] = some x4 := by have h := hf 4 _ rfl; simpa [z3] using h
      obtain ⟨b0, e0, _⟩ := DataW.trod_bool Tryf.underlying4 f0
      obtain ⟨b1, e1, _, w1⟩ := DataW.trod_int Tryf.underlying3 f1
      obtain ⟨b2, e2, _, w2⟩ := DataW.trod_int Tryf.underlying3 f2
      obtain ⟨b3, e3, _, w3⟩ := DataW.trod_string Tryf.underlying9 f3
      obtain ⟨b4, e4, _, w4⟩ := DataW.trod_int Tryf.underlying3 f4
      simp at e0 e1 e2 e3 e4
      subst e0 e1 e2 e3 e4
      exact ⟨⟨b0, b1, b2, b3, b4⟩, rfl, w3, w1, w2, w4⟩
theorem frs_open {a : Option Addr} {len cap n : Nat} {x : DataW H × List MemPlace} (h : DataW.trod enc Tryf.prog w base spare held n 22 [.slice a len cap] = some x) : ∃ fs : List Fr, fs.length = len ∧ FrsIn w a cap fs := by
  rcases open_slice Tryf.underlying22 h with ⟨hcs, _⟩ | ⟨p, l, c, m, n', D, Pl, hcs, hb, hlc, hcm, hm, hx, hi⟩
  · simp at hcs
    obtain ⟨rfl, rfl, rfl⟩ := hcs
    exact ⟨[], rfl, fun h0 => absurd h0 (Nat.lt_irrefl _), fun _ => rfl, Nat.zero_le _, fun i hi => absurd hi (Nat.not_lt_zero _)⟩
  · simp at hcs
    obtain ⟨rfl, rfl, rfl⟩ := hcs
    have z5 : Tryf.prog.cellsOf 41 = 5 := by kernel_rfl
    have hlm : len ≤ m := by rw [hm]; split <;> omega
    have hex : ∀ i, ∃ f : Fr, i < len → FrW f ∧ ∀ j, j < 5 → w.cell? (p.add (i * 5 + j)) = f.cells[j]? := fun i => by
      by_cases hil : i < len
      · obtain ⟨cs', h1, h2⟩ := hi i (by omega)
        rw [z5] at h1
        obtain ⟨f, rfl, hw⟩ := fr_open h2
        obtain ⟨_, _, h3⟩ := World.cells?_some h1
        exact ⟨f, fun _ => ⟨hw, fun j hj => by rw [← h3 j hj, Go.Deep.add_add]⟩⟩
      · exact ⟨default, fun h => absurd h hil⟩
    obtain ⟨G, hG⟩ := Classical.axiomOfChoice hex
    have hget : ∀ i, i < len → ((List.range len).map G)[i]! = G i := fun i hil => by
      rw [getElem!_pos _ _ (by simpa using hil)]; simp
    refine ⟨(List.range len).map G, by simp, fun h0 => ?_, (fun e => by cases e), (by simp; omega), fun i hil => ?_⟩
    · have h0' : 0 < len := by simpa using h0
      have hsp : p.spot = none := by
        have := (hG 0 h0').2 0 (by omega)
        have h2 := World.cell?_spot this
        simpa [Addr.add] using h2
      obtain ⟨b, off, spot⟩ := p
      simp only at hsp
      subst hsp
      have hc : ∀ i, i < len → ∀ j, j < 5 → w.cell? ⟨b, off + i * 5 + j, none⟩ = (G i).cells[j]? := fun i hil j hj => by
        have := (hG i hil).2 j hj
        rw [addr_add, ← Nat.add_assoc] at this
        exact this
      refine ⟨b, off, rfl, lt_of_cell (hc 0 h0' 0 (by omega)), fun i hil => ?_⟩
      have hil' : i < len := by simpa using hil
      rw [hget i hil']
      exact ⟨hc i hil' 0 (by omega), hc i hil' 1 (by omega), hc i hil' 2 (by omega), hc i hil' 3 (by omega), hc i hil' 4 (by omega)⟩
    · have hil' : i < len := by simpa using hil
      rw [hget i hil']
      exact (hG i hil').1
end
end Go.Proofs.YtjbehcabekkjdaaFmt
