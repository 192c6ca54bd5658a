/-
  For FnSetCaptureActsAsStore: its guard, and the plain law of the store: the length that a script of slots reaches, the words padded to it.
-/
import Derived.Test.YtlokpjjjpgjbcaaHelp3c
namespace Go.Proofs.Ytlokpjjjpgjbcaa
open Go.RowKit
set_option linter.unusedVariables false
set_option linter.unusedSimpArgs false

def reach : Nat → List Int → Nat
  | m, [] => m
  | m, z :: t => reach (max m (z.toNat + 1)) t
theorem reach_ge (m : Nat) (l : List Int) : m ≤ reach m l := by
  induction l generalizing m with
  | nil => exact Nat.le_refl _
  | cons z t ih => exact Nat.le_trans (Nat.le_max_left _ _) (ih _)
theorem drop_one {l : List Int} {k : Nat} (h : k < l.length) : l.drop k = l.getD k 0 :: l.drop (k + 1) := by
  rw [List.getD_eq_getElem?_getD, List.getElem?_eq_getElem h]; exact List.drop_eq_getElem_cons h
theorem reach_step {m k : Nat} {l : List Int} {s : Nat} (h : k < l.length) (hs : l.getD k 0 = (s : Int)) : reach m (l.drop k) = reach (max m (s + 1)) (l.drop (k + 1)) := by
  rw [drop_one h, hs]; rfl
theorem reach_end {m k : Nat} {l : List Int} (h : l.length ≤ k) : reach m (l.drop k) = m := by rw [List.drop_eq_nil_of_le h]; rfl
theorem reach_in {m k : Nat} {l : List Int} {s : Nat} (h : k < l.length) (hs : l.getD k 0 = (s : Int)) : s + 1 ≤ reach m (l.drop k) := by
  rw [reach_step h hs]; exact Nat.le_trans (Nat.le_max_right _ _) (reach_ge _ _)
theorem list_eq {l r : List Int} (hn : l.length = r.length) (h : ∀ j, l.getD j 0 = r.getD j 0) : l = r := by
  refine List.ext_getElem hn fun j h1 h2 => ?_
  have := h j
  rwa [List.getD_eq_getElem?_getD, List.getD_eq_getElem?_getD, List.getElem?_eq_getElem h1, List.getElem?_eq_getElem h2] at this
theorem ext_set {us : List Int} {s L : Nat} (v : Int) (hs : s + 1 ≤ L) (hl : us.length ≤ L) : ext ((ext us (s + 1)).set s v) L = (ext us L).set s v := by
  refine list_eq (by simp only [length_ext, List.length_set]; omega) fun j => ?_
  rw [getD_ext]
  by_cases hj : s = j
  · subst hj
    rw [getD_set_same (by rw [length_ext]; omega), getD_set_same (by rw [length_ext]; omega)]
  · rw [getD_set_ne hj, getD_set_ne hj, getD_ext, getD_ext]
theorem gS_any (a : Option Addr) (n cap : Nat) (b : Option Addr) (m capb : Nat) (c : Option Addr) (l capc : Nat) (hn : n ≤ 9223372036854775807) (hm : m ≤ 9223372036854775807) (hl : l ≤ 9223372036854775807) (w : World) : Calls Try.prog 6 #[.slice a n cap, .slice b m capb, .slice c l capc] w fun e w' => e = .returned (.bool (decide (n + m + l ≤ 1048576))) ∧ w = w' := by
  rcases (show 1048576 < n ∨ (n ≤ 1048576 ∧ 1048576 < m) ∨ (n ≤ 1048576 ∧ m ≤ 1048576 ∧ 1048576 < n + m) ∨ (n + m ≤ 1048576 ∧ 1048576 < l) ∨ (n + m ≤ 1048576 ∧ l ≤ 1048576 ∧ 1048576 < n + m + l) ∨ n + m + l ≤ 1048576 by omega) with h | ⟨h, h'⟩ | ⟨h, h', h''⟩ | ⟨h, h'⟩ | ⟨h, h', h''⟩ | h
  all_goals
    go_enter Try.func6, Try.ntmps6
    go_wp2
    go_ret
    exact ⟨ret_bool (by simp; omega), rfl⟩
theorem i64_bd {n : Int} (h : (Lit.int .i64 n).wf = true) : -9223372036854775808 ≤ n ∧ n < 9223372036854775808 := by have := bounds_i64 h; omega
theorem row_cell {k : IntKind} {w : World} {a : Option Addr} {ys : List Int} (h : RowInt k w a ys) (h0 : 0 < ys.length) : ∃ b off, a = some ⟨b, off, none⟩ ∧ ∀ i, i < ys.length → w.cell? ⟨b, off + i, none⟩ = some (.int k (ys.getD i 0)) := by
  obtain ⟨b, off, h1, h2⟩ := h h0
  exact ⟨b, off, h1, h2⟩

end Go.Proofs.Ytlokpjjjpgjbcaa
