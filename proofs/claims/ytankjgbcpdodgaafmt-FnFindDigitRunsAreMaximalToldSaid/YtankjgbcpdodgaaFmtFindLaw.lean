/-
  What Find hands back, over the list of all the attempts that match. Plain laws; no condition beyond what each states.
-/
import Derived.Test.YtankjgbcpdodgaaFmtFind
namespace Go.Proofs.YtankjgbcpdodgaaFmt
open Go.RowKit
set_option linter.unusedVariables false
set_option linter.unusedSimpArgs false

/-- The matches from sp on, leftmost first, none over another. -/
def allFrom (len : Nat) (res : Nat → Bool × Nat × List Int) (sp : Nat) : List (List Int) :=
  if len < sp then [] else if (res sp).1 then (res sp).2.2 :: allFrom len res (max (sp + 1) (res sp).2.1) else allFrom len res (sp + 1)
termination_by len + 1 - sp
decreasing_by all_goals omega
theorem all_end {len : Nat} (res : Nat → Bool × Nat × List Int) {sp : Nat} (h : len < sp) : allFrom len res sp = [] := by unfold allFrom; rw [if_pos h]
theorem all_yes {len : Nat} {res : Nat → Bool × Nat × List Int} {sp : Nat} (h : ¬ len < sp) (hy : (res sp).1 = true) : allFrom len res sp = (res sp).2.2 :: allFrom len res (max (sp + 1) (res sp).2.1) := by
  conv => lhs; unfold allFrom
  rw [if_neg h, if_pos hy]
theorem all_no' {len : Nat} {res : Nat → Bool × Nat × List Int} {sp : Nat} (h : ¬ len < sp) (hy : (res sp).1 = false) : allFrom len res sp = allFrom len res (sp + 1) := by
  conv => lhs; unfold allFrom
  rw [if_neg h, if_neg (by rw [hy]; decide)]
theorem find_yes {len : Nat} {res : Nat → Bool × Nat × List Int} {limit : Int} {sp : Nat} {acc : List (List Int)} (h : ¬ len < sp) (hy : (res sp).1 = true) (hl : ¬ ((acc.length + 1 : Nat) : Int) = limit) : findLoop len res limit false sp acc = findLoop len res limit false (max (sp + 1) (res sp).2.1) (acc ++ [(res sp).2.2]) := by
  conv => lhs; unfold findLoop
  rw [if_neg h]
  simp only [hy, if_true]
  rw [if_neg (by simp only [List.length_append, List.length_singleton, Bool.false_eq_true, or_false]; exact hl)]
theorem find_stop {len : Nat} {res : Nat → Bool × Nat × List Int} {limit : Int} {sp : Nat} {acc : List (List Int)} (h : ¬ len < sp) (hy : (res sp).1 = true) (hl : ((acc.length + 1 : Nat) : Int) = limit) : findLoop len res limit false sp acc = acc ++ [(res sp).2.2] := by
  conv => lhs; unfold findLoop
  rw [if_neg h]
  simp only [hy, if_true]
  rw [if_pos (Or.inl (by simp only [List.length_append, List.length_singleton]; exact hl))]
theorem find_no {len : Nat} {res : Nat → Bool × Nat × List Int} {limit : Int} {sp : Nat} {acc : List (List Int)} (h : ¬ len < sp) (hy : (res sp).1 = false) (hl : ¬ (acc.length : Int) = limit) : findLoop len res limit false sp acc = findLoop len res limit false (sp + 1) acc := by
  conv => lhs; unfold findLoop
  rw [if_neg h]
  simp only [hy, Bool.false_eq_true, if_false]
  rw [if_neg (by simp only [or_false]; exact hl)]
/-- The limit is never met. -/
theorem find_all (len : Nat) (res : Nat → Bool × Nat × List Int) (limit : Int) : ∀ (k sp : Nat) (acc : List (List Int)), len + 1 - sp ≤ k → limit < acc.length ∨ limit < 0 → findLoop len res limit false sp acc = acc ++ allFrom len res sp
  | k, sp, acc, hk, hl => by
    by_cases h : len < sp
    · rw [all_end res h, List.append_nil, find_end len res limit false sp acc (by omega)]
    · cases k with
      | zero => omega
      | succ k =>
        cases hy : (res sp).1 with
        | true =>
          rw [find_yes h hy (by omega), all_yes h hy, find_all len res limit k _ _ (by omega) (by simp only [List.length_append, List.length_singleton]; omega), List.append_assoc]
          rfl
        | false => rw [find_no h hy (by omega), all_no' h hy, find_all len res limit k _ _ (by omega) hl]
/-- The limit cuts. -/
theorem find_cut (len : Nat) (res : Nat → Bool × Nat × List Int) (limit : Int) : ∀ (k sp : Nat) (acc : List (List Int)) (m : Nat), len + 1 - sp ≤ k → limit = ((acc.length + (m + 1) : Nat) : Int) → findLoop len res limit false sp acc = acc ++ (allFrom len res sp).take (m + 1)
  | k, sp, acc, m, hk, hl => by
    by_cases h : len < sp
    · rw [all_end res h, List.take_nil, List.append_nil, find_end len res limit false sp acc (by omega)]
    · cases k with
      | zero => omega
      | succ k =>
        cases hy : (res sp).1 with
        | true =>
          rw [all_yes h hy, List.take_succ_cons]
          cases m with
          | zero => rw [find_stop h hy (by omega)]; rfl
          | succ m =>
            rw [find_yes h hy (by omega), find_cut len res limit k _ _ m (by omega) (by simp only [List.length_append, List.length_singleton]; omega), List.append_assoc]
            rfl
        | false => rw [find_no h hy (by omega), all_no' h hy, find_cut len res limit k _ _ m (by omega) hl]
/-- How many of n matches are kept. -/
def kept (n : Nat) (first : Bool) (limit : Int) : Nat := if 0 < limit ∧ limit < n then limit.toNat else if limit = 0 ∧ first = false then 0 else n
theorem find_kept (len : Nat) (res : Nat → Bool × Nat × List Int) (limit : Int) (sp : Nat) (first : Bool) (hf : first = (decide (sp ≤ len) && (res sp).1)) :
    findLoop len res limit false sp [] = (allFrom len res sp).take (kept (allFrom len res sp).length first limit) := by
  unfold kept
  rcases (show limit < 0 ∨ limit = 0 ∨ 0 < limit by omega) with h | h | h
  · rw [if_neg (by omega), if_neg (by omega), List.take_length, find_all len res limit _ sp [] (Nat.le_refl _) (.inr h), List.nil_append]
  · subst h
    rw [if_neg (by omega)]
    by_cases hs : len < sp
    · rw [find_end len res 0 false sp [] (by omega), all_end res hs, List.take_nil]
    · cases hy : (res sp).1 with
      | true =>
        have : first = true := by rw [hf, hy]; simp; omega
        rw [if_neg (by simp [this]), List.take_length, find_yes hs hy (by simp), find_all len res 0 _ _ _ (Nat.le_refl _) (.inl (by simp)), all_yes hs hy]
        rfl
      | false =>
        have : first = false := by rw [hf, hy]; simp
        rw [if_pos ⟨rfl, this⟩, List.take_zero]
        unfold findLoop
        rw [if_neg hs]
        simp [hy]
  · obtain ⟨m, hm⟩ : ∃ m : Nat, limit = ((m + 1 : Nat) : Int) := ⟨(limit - 1).toNat, by omega⟩
    rw [find_cut len res limit _ sp [] m (Nat.le_refl _) (by simpa using hm), List.nil_append]
    split
    · congr 1; omega
    · rw [if_neg (by omega)]
      rw [List.take_length]
      exact List.take_of_length_le (by omega)

/-- The naive scan's starts. -/
def litStarts (src L : List Int) (i : Nat) : List Nat :=
  if src.length < i then [] else if occ src L i then i :: litStarts src L (if 0 < L.length then i + L.length else i + 1) else litStarts src L (i + 1)
termination_by src.length + 1 - i
decreasing_by all_goals (try split); all_goals omega
theorem lit_all (src L : List Int) : ∀ (k i : Nat), src.length + 1 - i ≤ k → allFrom src.length (litRes src L) i = (litStarts src L i).map fun (j : Nat) => [capW (j : Int), capW ((j + L.length : Nat) : Int)]
  | k, i, hk => by
    unfold litStarts
    by_cases h : src.length < i
    · rw [all_end _ h, if_pos h]; rfl
    · rw [if_neg h]
      cases k with
      | zero => omega
      | succ k =>
        cases ho : occ src L i with
        | true =>
          have e : litRes src L i = (true, i + L.length, [capW i, capW (i + L.length : Nat)]) := by unfold litRes; rw [ho]; rfl
          rw [all_yes h (by rw [e]), e, if_pos rfl, List.map_cons]
          have e2 : max (i + 1) (i + L.length) = (if 0 < L.length then i + L.length else i + 1) := by split <;> omega
          simp only [e2]
          rw [lit_all src L k _ (by split <;> omega)]
        | false =>
          have e : litRes src L i = (false, i, [0]) := by unfold litRes; rw [ho]; rfl
          rw [all_no' h (by rw [e]), lit_all src L k _ (by omega)]
          rfl

end Go.Proofs.YtankjgbcpdodgaaFmt
