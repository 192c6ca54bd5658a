/-
  Patterns of plain bytes: what the parser and the compiler make of them and how the machine runs on them. Plain laws; no condition beyond what each states.
-/
import Derived.Test.YtankjgbcpdodgaaFmtCompTop
namespace Go.Proofs.YtankjgbcpdodgaaFmt
open Go.RowKit
set_option linter.unusedVariables false
set_option linter.unusedSimpArgs false

/-- The pattern parser reads the byte as itself. -/
def plainZ (z : Int) : Bool := !([37, 46, 91, 93, 40, 41, 42, 43, 45, 63, 36, 94] : List Int).contains z
def lits (L : List Int) : List Pt := L.map fun z => .one (.el (.chr z))
def chrs (L : List Int) : List Ins := L.map fun z => .chr (.el (.chr z))
/-- The bytes L stand in src from sp on. -/
def occ (src : List Int) : List Int → Nat → Bool
  | [], _ => true
  | z :: L, sp => decide (sp < src.length) && (byteAt src sp == z) && occ src L (sp + 1)
theorem occ_iff (src : List Int) : ∀ (L : List Int) (sp : Nat), sp ≤ src.length → (occ src L sp = true ↔ sp + L.length ≤ src.length ∧ ∀ j z, L[j]? = some z → byteAt src (sp + j) = z)
  | [], sp, h => by simp [occ, h]
  | z :: L, sp, h => by
    rcases Nat.lt_or_ge sp src.length with h1 | h1
    · have ih := occ_iff src L (sp + 1) h1
      simp only [occ, Bool.and_eq_true, decide_eq_true_eq, beq_iff_eq, ih, List.length_cons]
      constructor
      · rintro ⟨⟨_, h2⟩, h3, h4⟩
        refine ⟨by omega, fun j y hj => ?_⟩
        cases j with
        | zero => simp at hj; subst hj; exact h2
        | succ j => rw [show sp + (j + 1) = sp + 1 + j by omega]; exact h4 j y (by simpa using hj)
      · rintro ⟨h2, h3⟩
        refine ⟨⟨h1, h3 0 z rfl⟩, by omega, fun j y hj => ?_⟩
        rw [show sp + 1 + j = sp + (j + 1) by omega]
        exact h3 (j + 1) y (by simpa using hj)
    · simp only [occ, List.length_cons, decide_eq_false (show ¬ sp < src.length by omega), Bool.false_and, Bool.false_eq_true, false_iff]
      rintro ⟨h2, _⟩; omega
theorem plain_ne {z : Int} (h : plainZ z = true) : ∀ y, y ∈ ([37, 46, 91, 93, 41, 40, 42, 43, 45, 63, 36] : List Int) → z ≠ y := by
  intro y hy e
  subst e
  unfold plainZ at h
  simp only [List.contains_iff_mem, Bool.not_eq_true', Bool.decide_eq_false] at h
  have : z ∈ ([37, 46, 91, 93, 40, 41, 42, 43, 45, 63, 36, 94] : List Int) := by
    simp only [List.mem_cons, List.not_mem_nil, or_false] at hy ⊢
    omega
  simp [this] at h
/-- The parser's loop over plain bytes from the cursor on. -/
theorem lit_prun (zs : List Int) (top q : Bool) (r : PR) : ∀ (L : List Int) (c : Nat) (acc : List Pt), (∀ j z, L[j]? = some z → zs[c + j]? = some z) → (∀ z, z ∈ L → plainZ z = true) → PRun zs top (c + L.length) (acc ++ lits L) q r → PRun zs top c acc q r
  | [], c, acc, _, _, h => by simpa [lits] using h
  | z :: L, c, acc, hz, hp, h => by
    have h0 := hz 0 z rfl
    have hc : c < zs.length := (List.getElem?_eq_some_iff.1 h0).1
    have hch : chr zs c = z := by
      unfold chr
      rw [if_pos hc, List.getD_eq_getElem?_getD, show zs[c]? = some z from h0]; rfl
    refine .lit hc (fun y hy => by rw [hch]; exact plain_ne (hp z (by simp)) y hy) ?_
    rw [hch]
    refine lit_prun zs top q r L (c + 1) _ (fun j y hj => by rw [show c + 1 + j = c + (j + 1) by omega]; exact hz (j + 1) y (by simpa using hj)) (fun y hy => hp y (by simp [hy])) ?_
    simpa [lits, Nat.add_assoc, Nat.add_comm 1] using h
theorem lit_crun : ∀ (L : List Int) (I : List Ins) (k : Nat), CRun (lits L) I k (I ++ chrs L) k
  | [], I, k => by simpa [lits, chrs] using CRun.nil
  | z :: L, I, k => by
    have h := lit_crun L (I ++ [.chr (.el (.chr z))]) k
    rw [List.append_assoc] at h
    exact .one h
/-- The machine over the characters. -/
theorem lit_run {src : List Int} {I : List Ins} {d : Nat} {us : List Int} : ∀ (L : List Int) (pc sp : Nat), (∀ j z, L[j]? = some z → I[pc + j]? = some (.chr (.el (.chr z)))) →
    (occ src L sp = true → ∀ n r, VRun src I d n (pc + L.length) (sp + L.length) us r → ∃ n', VRun src I d n' pc sp us r) ∧ (occ src L sp = false → ∃ n' j, VRun src I d n' pc sp us (false, j, us))
  | [], pc, sp, _ => ⟨fun _ n r h => ⟨n, h⟩, fun h => by cases h⟩
  | z :: L, pc, sp, hI => by
    have h0 : I[pc]? = some (.chr (.el (.chr z))) := hI 0 z rfl
    obtain ⟨ih1, ih2⟩ := lit_run (src := src) (d := d) (us := us) L (pc + 1) (sp + 1) (fun j y hj => by rw [show pc + 1 + j = pc + (j + 1) by omega]; exact hI (j + 1) y (by simpa using hj))
    have hhas : ∀ x, Cl.has (.el (.chr z)) x = (z == x) := fun x => rfl
    rcases Nat.lt_or_ge sp src.length with h1 | h1
    · by_cases h2 : byteAt src sp = z
      · have hy : Cl.has (.el (.chr z)) (byteAt src sp) = true := by rw [hhas, h2]; simp
        constructor
        · intro h n r hr
          have h3 : occ src L (sp + 1) = true := by simp only [occ, Bool.and_eq_true] at h; exact h.2
          rw [show pc + (z :: L).length = pc + 1 + L.length by simp; omega, show sp + (z :: L).length = sp + 1 + L.length by simp; omega] at hr
          obtain ⟨n', hn⟩ := ih1 h3 n r hr
          exact ⟨_, .chrYes h0 h1 hy hn⟩
        · intro h
          have h3 : occ src L (sp + 1) = false := by simpa [occ, h1, h2] using h
          obtain ⟨n', j, hn⟩ := ih2 h3
          exact ⟨_, j, .chrYes h0 h1 hy hn⟩
      · have hn : Cl.has (.el (.chr z)) (byteAt src sp) = false := by rw [hhas]; exact beq_eq_false_iff_ne.2 (fun e => h2 e.symm)
        exact ⟨fun h => absurd h (by simp [occ, h2]), fun _ => ⟨0, sp, .chrNo h0 (.inr hn)⟩⟩
    · exact ⟨fun h => absurd h (by simp [occ]; omega), fun _ => ⟨0, sp, .chrNo h0 (.inl h1)⟩⟩
/-- The program of a literal. -/
def litProg (tail : Bool) (L : List Int) : List Ins := progOf tail ([.save 0] ++ chrs L)
theorem litProg_chr (tail : Bool) (L : List Int) : ∀ j z, L[j]? = some z → (litProg tail L)[1 + j]? = some (.chr (.el (.chr z))) := by
  intro j z hj
  have hl : j < L.length := (List.getElem?_eq_some_iff.1 hj).1
  have : ([Ins.save 0] ++ chrs L)[1 + j]? = some (.chr (.el (.chr z))) := by
    rw [List.getElem?_append_right (by simp), show 1 + j - [Ins.save 0].length = j by simp]
    simp [chrs, List.getElem?_map, hj]
  unfold litProg progOf
  cases tail
  · simp only [Bool.false_eq_true, if_false]; rw [List.getElem?_append_left (by simp [chrs]; omega)]; exact this
  · simp only [if_true]; rw [List.append_assoc, List.getElem?_append_left (by simp [chrs]; omega)]; exact this
theorem litProg_get (tail : Bool) (L : List Int) (j : Nat) : (litProg tail L)[1 + L.length + j]? = ((if tail then [Ins.save 1, .tmat] else []) ++ [.save 1, .mat])[j]? := by
  have hl : ([Ins.save 0] ++ chrs L).length = 1 + L.length := by simp [chrs]; omega
  unfold litProg progOf
  cases tail
  · simp only [Bool.false_eq_true, if_false, List.nil_append]
    rw [List.getElem?_append_right (by omega), hl]; congr 1; omega
  · simp only [if_true]
    rw [List.append_assoc, List.getElem?_append_right (by omega), hl]; congr 1; omega
theorem litProg_zero (tail : Bool) (L : List Int) : (litProg tail L)[0]? = some (.save 0) := by unfold litProg progOf; cases tail <;> rfl

/-- How the machine ends on a literal. -/
def litRes (src L : List Int) (sp : Nat) : Bool × Nat × List Int := if occ src L sp then (true, sp + L.length, [capW sp, capW (sp + L.length : Nat)]) else (false, sp, [0])
theorem lit_vrun (src L : List Int) (sp : Nat) : ∃ n, VRun src (litProg false L) 2 n 0 sp [] (litRes src L sp) := by
  have h0 := litProg_zero false L
  have e0 : (ext ([] : List Int) (0 + 1)).set 0 (capW sp) = [capW sp] := rfl
  obtain ⟨ra, rb⟩ := lit_run (src := src) (I := litProg false L) (d := 1) (us := [capW sp]) L 1 sp (litProg_chr false L)
  unfold litRes
  cases ho : occ src L sp with
  | true =>
    have hs : (litProg false L)[1 + L.length]? = some (.save 1) := by have := litProg_get false L 0; simpa using this
    have hm : (litProg false L)[1 + L.length + 1]? = some .mat := by have := litProg_get false L 1; simpa using this
    have e1 : (ext [capW sp] (1 + 1)).set 1 (capW (sp + L.length : Nat)) = [capW sp, capW (sp + L.length : Nat)] := rfl
    have hr : VRun src (litProg false L) 1 0 (1 + L.length) (sp + L.length) [capW sp] (true, sp + L.length, [capW sp, capW (sp + L.length : Nat)]) := .saveYes (m := 0) hs (by rw [e1]; exact .mat hm)
    obtain ⟨n', hn⟩ := ra ho _ _ hr
    exact ⟨0, by simp only [if_true]; exact .saveYes h0 (by rw [e0]; exact hn)⟩
  | false =>
    obtain ⟨n', j, hn⟩ := rb ho
    have := VRun.saveNo (n := 0) h0 (by rw [e0]; exact hn) (by simp)
    exact ⟨0, by simpa [ext] using this⟩
/-- How the machine ends on a literal with an anchored tail. -/
def tailRes (src L : List Int) (sp : Nat) : Bool × Nat × List Int := if occ src L sp then (if src.length ≤ sp + L.length then (true, sp + L.length, [capW sp, capW (sp + L.length : Nat)]) else (false, sp, [0, 0])) else (false, sp, [0])
theorem tail_vrun (src L : List Int) (sp : Nat) : ∃ n, VRun src (litProg true L) 2 n 0 sp [] (tailRes src L sp) := by
  have h0 := litProg_zero true L
  have e0 : (ext ([] : List Int) (0 + 1)).set 0 (capW sp) = [capW sp] := rfl
  obtain ⟨ra, rb⟩ := lit_run (src := src) (I := litProg true L) (d := 1) (us := [capW sp]) L 1 sp (litProg_chr true L)
  unfold tailRes
  cases ho : occ src L sp with
  | true =>
    have hs : (litProg true L)[1 + L.length]? = some (.save 1) := by have := litProg_get true L 0; simpa using this
    have hm : (litProg true L)[1 + L.length + 1]? = some .tmat := by have := litProg_get true L 1; simpa using this
    have e1 : (ext [capW sp] (1 + 1)).set 1 (capW (sp + L.length : Nat)) = [capW sp, capW (sp + L.length : Nat)] := rfl
    by_cases hl : src.length ≤ sp + L.length
    · have hr : VRun src (litProg true L) 1 0 (1 + L.length) (sp + L.length) [capW sp] (true, sp + L.length, [capW sp, capW (sp + L.length : Nat)]) := .saveYes (m := 0) hs (by
        rw [e1]
        have := VRun.tmat (src := src) (d := 0) (n := 0) (sp := sp + L.length) (us := [capW sp, capW (sp + L.length : Nat)]) hm
        rwa [decide_eq_true hl] at this)
      obtain ⟨n', hn⟩ := ra ho _ _ hr
      exact ⟨0, by simp only [if_true, if_pos hl]; exact .saveYes h0 (by rw [e0]; exact hn)⟩
    · have hr : VRun src (litProg true L) 1 0 (1 + L.length) (sp + L.length) [capW sp] (false, sp + L.length, [capW sp, 0]) := by
        have h1 : VRun src (litProg true L) 0 0 (1 + L.length + 1) (sp + L.length) ((ext [capW sp] (1 + 1)).set 1 (capW (sp + L.length : Nat))) (false, sp + L.length, [capW sp, capW (sp + L.length : Nat)]) := by
          rw [e1]
          have := VRun.tmat (src := src) (d := 0) (n := 0) (sp := sp + L.length) (us := [capW sp, capW (sp + L.length : Nat)]) hm
          rwa [decide_eq_false hl] at this
        have := VRun.saveNo (n := 0) hs h1 (by simp)
        simpa [ext] using this
      obtain ⟨n', hn⟩ := ra ho _ _ hr
      have := VRun.saveNo (n := 0) h0 (by rw [e0]; exact hn) (by simp)
      exact ⟨0, by simp only [if_true, if_neg hl]; simpa [ext] using this⟩
  | false =>
    obtain ⟨n', j, hn⟩ := rb ho
    have := VRun.saveNo (n := 0) h0 (by rw [e0]; exact hn) (by simp)
    exact ⟨0, by simpa [ext] using this⟩
/-- The parser over a whole literal. -/
theorem lit_ptop (L : List Int) (hp : ∀ z, z ∈ L → plainZ z = true) : PTop L true 0 false (.ok (lits L) false (L.length + 1)) := by
  refine .inr ⟨fun _ => ?_, rfl, ?_⟩
  · rw [beq_eq_false_iff_ne]
    intro e
    have hc := chr_lt (zs := L) (c := 0) (by rw [e]; omega)
    have h1 : chr L 0 ∈ L := by unfold chr; rw [if_pos hc, List.getD_eq_getElem?_getD, List.getElem?_eq_getElem hc]; exact List.getElem_mem hc
    have := hp _ h1
    rw [e] at this
    simp [plainZ] at this
  · refine lit_prun L true false _ L 0 [] (fun j z hj => by simpa using hj) hp ?_
    simpa using PRun.fin (zs := L) (top := true) (c := L.length) (acc := lits L) (q := false) (Nat.le_refl _)
theorem tail_ptop (L : List Int) (hp : ∀ z, z ∈ L → plainZ z = true) : PTop (L ++ [36]) true 0 false (.ok (lits L) true (L.length + 2)) := by
  refine .inr ⟨fun _ => ?_, rfl, ?_⟩
  · rw [beq_eq_false_iff_ne]
    intro e
    have hc := chr_lt (zs := L ++ [36]) (c := 0) (by rw [e]; omega)
    have h1 : chr (L ++ [36]) 0 ∈ L ++ [36] := by unfold chr; rw [if_pos hc, List.getD_eq_getElem?_getD, List.getElem?_eq_getElem hc]; exact List.getElem_mem hc
    rw [e] at h1
    rcases List.mem_append.1 h1 with h1 | h1
    · have := hp _ h1; simp [plainZ] at this
    · simp at h1
  · refine lit_prun (L ++ [36]) true false _ L 0 [] (fun j z hj => by rw [Nat.zero_add, List.getElem?_append_left (List.getElem?_eq_some_iff.1 hj).1]; exact hj) hp ?_
    have hch : chr (L ++ [36]) (0 + L.length) = 36 := by unfold chr; rw [if_pos (by simp), List.getD_eq_getElem?_getD, Nat.zero_add, List.getElem?_append_right (Nat.le_refl _), Nat.sub_self]; rfl
    refine .tail hch (by simp) ?_
    have := PRun.fin (zs := L ++ [36]) (top := true) (c := 0 + L.length + 1) (acc := [] ++ lits L) (q := true) (by simp)
    simpa using this

end Go.Proofs.YtankjgbcpdodgaaFmt
