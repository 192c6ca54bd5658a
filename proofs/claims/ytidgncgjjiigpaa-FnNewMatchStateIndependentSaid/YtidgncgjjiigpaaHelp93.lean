/-
  The contracts of the helpers of n005_93: the exported makers and writers of a MatchData, the remainder modulo 2^31, the copy of an int slice, the guard on lengths. Their condition: slots up to 2^30.
-/
import Derived.Test.YtidgncgjjiigpaaMatchAdd
import Derived.Test.YtidgncgjjiigpaaMatchLen
import Derived.Test.YtidgncgjjiigpaaMatchRead
import Derived.Test.YtidgncgjjiigpaaMatchNew
import Derived.LaidEqlPtr
import Derived.Deep.RegionWith
namespace Go.Proofs.Ytidgncgjjiigpaa
open Go.RowKit
set_option linter.unusedVariables false
set_option linter.unusedSimpArgs false

theorem zzNewM_any (w : World) : Calls Try.prog 6 #[] w fun e w' => e = .returned (.pointer (some ⟨w.heap.size + 1, 0, none⟩)) ∧ MD w' (w.heap.size + 1) (some ⟨w.heap.size, 0, none⟩) 0 [] ∧ Below w.heap.size w w' ∧ w'.heap.size = w.heap.size + 2 := by
  go_enter Try.func6, Try.ntmps6
  go_wp2_with (go_at_call 14; refine (newMatch_any _).mono ?_; rintro e w' ⟨rfl, h1, h2, h3⟩)
  go_ret
  exact ⟨rfl, h1, h2, h3⟩

theorem zzAdd_any {w : World} {m cap s : Nat} {ao : Option Addr} {us : List Int} (p : Int) (h : MD w m ao cap us) (hs : s ≤ 1073741824) :
    Calls Try.prog 7 #[.pointer (some ⟨m, 0, none⟩), .int .i64 (s : Int), .int .i64 p] w fun e w' => e = .returned (.tuple #[]) ∧ ∃ ao' cap', MD w' m ao' cap' (((ext us (s + 2)).set s (posW p)).set (s + 1) (posW p)) ∧ Moved w w' m ao ao' := by
  have H := Lib.hid h
  clear h
  go_enter Try.func7, Try.ntmps7
  go_wp2_with (go_at_call 15; refine (addPos_any p H.out hs).mono ?_; rintro e w' ⟨rfl, ao', cap', h1, h2⟩)
  go_end0
  exact ⟨rfl, ao', cap', h1, h2⟩

theorem mod31_any (p : Int) (w : World) : Calls Try.prog 9 #[.int .i64 p] w fun e w' => e = .returned (.int .i64 (p % 2147483648)) ∧ w = w' := by
  by_cases h : 0 ≤ p
  · go_enter Try.func9, Try.ntmps9
    go_wp2
    go_ret
    exact ⟨rfl, rfl⟩
  · have hq : p.tmod 2147483648 = -((-p) % 2147483648) := by
      rw [← Int.tmod_eq_emod_of_nonneg (by omega), Int.neg_tmod]; omega
    have HQ := Lib.hid hq
    clear hq
    by_cases h2 : p.tmod 2147483648 < 0
    · have e1 : p % 2147483648 = p.tmod 2147483648 + 2147483648 := by
        have := HQ.out
        omega
      have E := Lib.hid e1
      have hlo : -2147483648 < p.tmod 2147483648 := by have := HQ.out; omega
      clear e1
      go_enter Try.func9, Try.ntmps9
      go_wp2
      go_ret
      exact ⟨ret_int E.out.symm, rfl⟩
    · have e1 : p % 2147483648 = p.tmod 2147483648 := by
        have := HQ.out
        omega
      have E := Lib.hid e1
      clear e1
      go_enter Try.func9, Try.ntmps9
      go_wp2
      go_ret
      exact ⟨ret_int E.out.symm, rfl⟩

theorem md_info : (Try.prog.info? 36).map (·.size) = some 1 := by kernel_rfl
/-- Two MatchData at two blocks are two. -/
theorem md_differ {w : World} {m m' : Nat} {ao ao' : Option Addr} {cap cap' : Nat} {us us' : List Int} (h : MD w m ao cap us) (h' : MD w m' ao' cap' us') (hne : m ≠ m') :
    (binOp .eql 22 (.pointer (some ⟨m, 0, none⟩)) (.pointer (some ⟨m', 0, none⟩))).run Try.prog w = .ok (.bool false) w := by
  obtain ⟨j, hj, hs⟩ := Option.map_eq_some_iff.1 md_info
  exact run_eql_ptr_other w Try.underlying22 hj (by omega) (by intro e; injection e; omega) h.blk h'.blk

theorem copyI_info : (Try.prog.info? 3).map (fun i => (i.zero, i.size, i.bytes)) = some (some (.int .i64 0), 1, 8) := by kernel_rfl
set_option maxHeartbeats 400000 in
/-- A copy by hand of a slice of integers: the same numbers in new memory; nothing that was there is written. -/
theorem copyI_any (a : Option Addr) (cap : Nat) (zs : List Int) (w : World) (h : RowInt .i64 w a zs) (hnil : a = none → zs.length = 0) (hl : zs.length ≤ 4194304) :
    Calls Try.prog 13 #[.slice a zs.length cap] w (Copied .i64 w zs) := by
  have qT : ∀ (w : World) (a : Option Addr) (n c n' c' : Nat), (binOp .eql 30 (.slice a n c) (.slice none n' c')).run Try.prog w = .ok (.bool a.isNone) w := fun w a n c n' c' => Lib.run_eql_slice_nil w _ _ a n c n' c' Try.underlying30
  cases a with
  | none =>
    have hz : zs = [] := List.length_eq_zero_iff.1 (hnil rfl)
    subst hz
    clear h hnil hl
    go_enter Try.func13, Try.ntmps13
    go_wp2
    go_ret
    exact ⟨none, 0, rfl, fun _ => rfl, fun _ hx => (by cases hx), fun h0 => absurd h0 (Nat.lt_irrefl _), Below.refl _ _⟩
  | some x =>
    clear hnil
    have hmk := fun W => run_make_row' (P := Try.prog) 30 3 (.int .i64 0) 8 Try.underlying30 copyI_info rfl .i64 .i64 zs.length (by omega) (by omega) W
    have hcell : ∀ j, j < zs.length → w.cell? (x.add j) = some (.int .i64 (zs.getD j 0)) := fun j hj => by
      obtain ⟨b, off, h1, h2⟩ := h (by omega)
      injection h1 with h1; subst h1; rw [addr_add]; exact h2 j hj
    have HC := Lib.hid hcell
    clear hcell h
    generalize hn : zs.length = n at *
    have HN := Lib.hid hn
    clear hn
    go_enter Try.func13, Try.ntmps13
    go_wp2
    go_loopw [4] (fun i wr => ∃ k : Nat, k ≤ n ∧ i = .int .i64 k ∧ wr.rowIs w.heap.size 3 n (fun j => if j < k then .int .i64 (zs.getD j 0) else .int .i64 0) ∧ Below w.heap.size w wr)
      (fun i _ => n - (intOf i).toNat)
    case atStart => exact ⟨0, Nat.zero_le _, rfl, (World.rowIs_made w (.int .i64 0) n 3).congr (fun i _ => by simp), (Below.refl _ _).alloc (Nat.le_refl _) _⟩
    case round =>
      obtain ⟨k, hk, rfl, hrow, hbel⟩ := hrel
      by_cases hlt : k < n
      · have hx : wr.cell? (x.add k) = some (.int .i64 (zs.getD k 0)) := by
          have h1 := HC.out k hlt
          exact (hbel.cell (lt_of_cell h1)).trans h1
        have hc0 : ∃ u : Int, wr.cell? ⟨w.heap.size, k, none⟩ = some (.int .i64 u) := ⟨0, by have := hrow.cell hlt; simpa using this⟩
        obtain ⟨u, hc⟩ := hc0
        have hf := hrow.frozen k
        have HR := Lib.hid hrow
        clear hrow
        go_wp2
        go_roundw
        case rel => exact ⟨k + 1, by omega, by go_num, (HR.out.set k _).congr (fun i _ => by split <;> (try split) <;> (try split) <;> first | rfl | (subst_vars; rfl) | omega), hbel.setCell (Nat.le_refl _) _⟩
        case measure => simp [intOf]; omega
      · obtain rfl : k = n := by omega
        have HR := Lib.hid hrow
        clear hrow
        go_wp2
        go_ret
        refine ⟨some ⟨w.heap.size, 0, none⟩, k, by rw [HN.out]; rfl, fun h0 => (by cases h0), fun x hx => ?_, RowInt.of_row HR.out (by rw [HN.out]; exact Nat.le_refl _) (fun i hi => ?_), hbel⟩
        · injection hx with hx; subst hx; exact ⟨Nat.le_refl _, HR.out.lt⟩
        · rw [if_pos (by rw [HN.out] at hi; exact hi)]


theorem guard_any (a : Option Addr) (n cap : Nat) (a' : Option Addr) (n' cap' : Nat) (hn : n ≤ 9223372036854775807) (hn' : n' ≤ 9223372036854775807) (w : World) : Calls Try.prog 12 #[.slice a n cap, .slice a' n' cap'] w fun e w' => e = .returned (.bool (decide (n ≤ 1048576 ∧ n + n' ≤ 1048576))) ∧ w = w' := by
  rcases (show 1048576 < n ∨ (n ≤ 1048576 ∧ 1048576 < n') ∨ (n ≤ 1048576 ∧ n' ≤ 1048576 ∧ 1048576 < n + n') ∨ (n ≤ 1048576 ∧ n' ≤ 1048576 ∧ n + n' ≤ 1048576) by omega) with h | ⟨h, h'⟩ | ⟨h, h', h''⟩ | ⟨h, h', h''⟩
  all_goals
    go_enter Try.func12, Try.ntmps12
    go_wp2
    go_ret
    exact ⟨ret_bool (by simp; omega), rfl⟩
theorem i64_bd {n : Int} (h : (Lit.int .i64 n).wf = true) : -9223372036854775808 ≤ n ∧ n ≤ 9223372036854775807 := bounds_i64 h
theorem MD.drew {w : World} {m cap : Nat} {ao : Option Addr} {us : List Int} (h : MD w m ao cap us) : MD w.drew m ao cap us := ⟨h.blk, h.own, h.bd, h.len⟩
theorem MD.drewN {w : World} {m cap : Nat} {ao : Option Addr} {us : List Int} (h : MD w m ao cap us) (n : Nat) : MD (w.drewN n) m ao cap us := ⟨h.blk, h.own, h.bd, h.len⟩
theorem Moved.of_drew {a b : World} {m : Nat} {x y : Option Addr} (h : Moved a.drew b m x y) : Moved a b m x y := ⟨h.os, h.tape, h.output, h.size, h.block, h.row⟩

/-! The plain side: the words behind the first i calls; their number; the last call that covers a slot. -/
def addsW (ss ps : List Int) : Nat → List Int
  | 0 => []
  | i + 1 => ((ext (addsW ss ps i) ((ss.getD i 0).toNat + 2)).set (ss.getD i 0).toNat (posW (ps.getD i 0))).set ((ss.getD i 0).toNat + 1) (posW (ps.getD i 0))
def lastOf (ss : List Int) (j : Nat) : Nat → Option Nat
  | 0 => none
  | i + 1 => if ss.getD i 0 = (j : Int) ∨ ss.getD i 0 + 1 = (j : Int) then some i else lastOf ss j i
theorem length_addsW (ss ps : List Int) (i : Nat) : (addsW ss ps (i + 1)).length = max (addsW ss ps i).length ((ss.getD i 0).toNat + 2) := by
  simp only [addsW, List.length_set, length_ext]
theorem addsW_at (ss ps : List Int) (j : Nat) : ∀ i, (∀ k, k < i → 0 ≤ ss.getD k 0) → (addsW ss ps i).getD j 0 = match lastOf ss j i with | none => 0 | some k => posW (ps.getD k 0)
  | 0, _ => rfl
  | i + 1, h => by
    have ih := addsW_at ss ps j i (fun k hk => h k (by omega))
    have h0 := h i (by omega)
    simp only [addsW, lastOf]
    by_cases h1 : ss.getD i 0 + 1 = (j : Int)
    · rw [if_pos (.inr h1), show (ss.getD i 0).toNat + 1 = j by omega, getD_set_same (by rw [List.length_set, length_ext]; omega)]
    · rw [getD_set_ne (by omega)]
      by_cases h2 : ss.getD i 0 = (j : Int)
      · rw [if_pos (.inl h2), show (ss.getD i 0).toNat = j by omega, getD_set_same (by rw [length_ext]; omega)]
      · rw [if_neg (by omega), getD_set_ne (by omega), getD_ext, ih]
theorem lastOf_lt (ss : List Int) (j : Nat) : ∀ i k, lastOf ss j i = some k → k < i
  | 0, k, h => by simp [lastOf] at h
  | i + 1, k, h => by
    simp only [lastOf] at h
    split at h
    · injection h with h; omega
    · have := lastOf_lt ss j i k h; omega
theorem length_addsW_le (ss ps : List Int) : ∀ i, (∀ k, k < i → ss.getD k 0 ≤ 4096) → (addsW ss ps i).length ≤ 4098
  | 0, _ => by simp [addsW]
  | i + 1, h => by
    have ih := length_addsW_le ss ps i (fun k hk => h k (by omega))
    have h0 := h i (by omega)
    rw [length_addsW]; omega

end Go.Proofs.Ytidgncgjjiigpaa
