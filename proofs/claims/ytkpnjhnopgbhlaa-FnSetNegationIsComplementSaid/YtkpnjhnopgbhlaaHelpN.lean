/-
  Helpers of FnSetNegationIsComplement: the copy, the guards. Their condition: lengths that fit an int.
-/
import Derived.Test.YtkpnjhnopgbhlaaSetN
namespace Go.Proofs.Ytkpnjhnopgbhlaa
open Go.RowKit
set_option linter.unusedVariables false
set_option linter.unusedSimpArgs false

theorem cpI_info : (Try.prog.info? 3).map (fun i => (i.zero, i.size, i.bytes)) = some (some (.int .i64 0), 1, 8) := by kernel_rfl
set_option maxHeartbeats 400000 in
/-- A copy by hand of a slice of integers: the same numbers in new memory; nothing that was there is written. -/
theorem cpI_any (a : Option Addr) (cap : Nat) (zs : List Int) (w : World) (h : RowInt .i64 w a zs) (hnil : a = none → zs.length = 0) (hl : zs.length ≤ 4194304) :
    Calls Try.prog 10 #[.slice a zs.length cap] w (Copied .i64 w zs) := by
  have qT : ∀ (w : World) (a : Option Addr) (n c n' c' : Nat), (binOp .eql 24 (.slice a n c) (.slice none n' c')).run Try.prog w = .ok (.bool a.isNone) w := fun w a n c n' c' => Lib.run_eql_slice_nil w _ _ a n c n' c' Try.underlying24
  cases a with
  | none =>
    have hz : zs = [] := List.length_eq_zero_iff.1 (hnil rfl)
    subst hz
    clear h hnil hl
    go_enter Try.func10, Try.ntmps10
    go_wp2
    go_ret
    exact ⟨none, 0, rfl, fun _ => rfl, fun _ hx => (by cases hx), fun h0 => absurd h0 (Nat.lt_irrefl _), Below.refl _ _⟩
  | some x =>
    clear hnil
    have hmk := fun W => run_make_row' (P := Try.prog) 24 3 (.int .i64 0) 8 Try.underlying24 cpI_info rfl .i64 .i64 zs.length (by omega) (by omega) W
    have hcell : ∀ j, j < zs.length → w.cell? (x.add j) = some (.int .i64 (zs.getD j 0)) := fun j hj => by
      obtain ⟨b, off, h1, h2⟩ := h (by omega)
      injection h1 with h1; subst h1; rw [addr_add]; exact h2 j hj
    have HC := Lib.hid hcell
    clear hcell h
    generalize hn : zs.length = n at *
    have HN := Lib.hid hn
    clear hn
    go_enter Try.func10, Try.ntmps10
    go_wp2
    go_loopw [4] (fun i wr => ∃ k : Nat, k ≤ n ∧ i = .int .i64 k ∧ wr.rowIs w.heap.size 3 n (fun j => if j < k then .int .i64 (zs.getD j 0) else .int .i64 0) ∧ Below w.heap.size w wr)
      (fun i _ => n - (intOf i).toNat)
    case atStart => exact ⟨0, Nat.zero_le _, rfl, (World.rowIs_made w (.int .i64 0) n 3).congr (fun i _ => by simp), (Below.refl _ _).alloc (Nat.le_refl _) _⟩
    case round =>
      obtain ⟨k, hk, rfl, hrow, hbel⟩ := hrel
      by_cases hlt : k < n
      · have hx : wr.cell? (x.add k) = some (.int .i64 (zs.getD k 0)) := by
          have h1 := HC.out k hlt
          exact (hbel.cell (lt_of_cell h1)).trans h1
        have hc0 : ∃ u : Int, wr.cell? ⟨w.heap.size, k, none⟩ = some (.int .i64 u) := ⟨0, by have := hrow.cell hlt; simpa using this⟩
        obtain ⟨u, hc⟩ := hc0
        have hf := hrow.frozen k
        have HR := Lib.hid hrow
        clear hrow
        go_wp2
        go_roundw
        case rel => exact ⟨k + 1, by omega, by go_num, (HR.out.set k _).congr (fun i _ => by split <;> (try split) <;> (try split) <;> first | rfl | (subst_vars; rfl) | omega), hbel.setCell (Nat.le_refl _) _⟩
        case measure => simp [intOf]; omega
      · obtain rfl : k = n := by omega
        have HR := Lib.hid hrow
        clear hrow
        go_wp2
        go_ret
        refine ⟨some ⟨w.heap.size, 0, none⟩, k, by rw [HN.out]; rfl, fun h0 => (by cases h0), fun x hx => ?_, RowInt.of_row HR.out (by rw [HN.out]; exact Nat.le_refl _) (fun i hi => ?_), hbel⟩
        · injection hx with hx; subst hx; exact ⟨Nat.le_refl _, HR.out.lt⟩
        · rw [if_pos (by rw [HN.out] at hi; exact hi)]


theorem gN_any (a : Option Addr) (n cap : Nat) (b : Option Addr) (m capb : Nat) (c : Option Addr) (l capc : Nat) (x : Int) (hn : n ≤ 9223372036854775807) (hm : m ≤ 9223372036854775807) (hl : l ≤ 9223372036854775807) (w : World) : Calls Try.prog 7 #[.slice a n cap, .slice b m capb, .slice c l capc, .int .i64 x] w fun e w' => e = .returned (.bool (decide (n + m + l ≤ 1048576))) ∧ w = w' := by
  rcases (show 1048576 < n ∨ (n ≤ 1048576 ∧ 1048576 < m) ∨ (n ≤ 1048576 ∧ m ≤ 1048576 ∧ 1048576 < n + m) ∨ (n + m ≤ 1048576 ∧ 1048576 < l) ∨ (n + m ≤ 1048576 ∧ l ≤ 1048576 ∧ 1048576 < n + m + l) ∨ n + m + l ≤ 1048576 by omega) with h | ⟨h, h'⟩ | ⟨h, h', h''⟩ | ⟨h, h'⟩ | ⟨h, h', h''⟩ | h
  all_goals
    go_enter Try.func7, Try.ntmps7
    go_wp2
    go_ret
    exact ⟨ret_bool (by simp; omega), rfl⟩
def BigQ (w : World) (n m l : Nat) (e : Ending) (w' : World) : Prop := ∃ v, e = .returned (.bool v) ∧ w = w' ∧ (v = false → n ≤ 131072 ∧ m ≤ 131072 ∧ l ≤ 131072)
theorem big_any (a : Option Addr) (n cap : Nat) (b : Option Addr) (m capb : Nat) (c : Option Addr) (l capc : Nat) (h : n + m + l ≤ 1048576) (w : World) : Calls Try.prog 8 #[.slice a n cap, .slice b m capb, .slice c l capc] w (BigQ w n m l) := by
  rcases (show 131072 < n ∨ (n ≤ 131072 ∧ 131072 < m) ∨ (n ≤ 131072 ∧ m ≤ 131072 ∧ 131072 < l) ∨ (n ≤ 131072 ∧ m ≤ 131072 ∧ l ≤ 131072) by omega) with q | ⟨q, q'⟩ | ⟨q, q', q''⟩ | ⟨q, q', q''⟩
  · have t1 : decide (131072 < (n : Int)) = true := decide_eq_true (by omega)
    go_enter Try.func8, Try.ntmps8
    go_wp2
    go_ret
    exact ⟨true, rfl, rfl, fun h => by cases h⟩
  · have t1 : decide (131072 < (n : Int)) = false := decide_eq_false (by omega)
    have t2 : decide (131072 < (m : Int)) = true := decide_eq_true (by omega)
    go_enter Try.func8, Try.ntmps8
    go_wp2
    go_ret
    exact ⟨true, rfl, rfl, fun h => by cases h⟩
  · have t1 : decide (131072 < (n : Int)) = false := decide_eq_false (by omega)
    have t2 : decide (131072 < (m : Int)) = false := decide_eq_false (by omega)
    have t3 : decide (131072 < (l : Int)) = true := decide_eq_true (by omega)
    go_enter Try.func8, Try.ntmps8
    go_wp2
    go_ret
    exact ⟨true, rfl, rfl, fun h => by cases h⟩
  · have t1 : decide (131072 < (n : Int)) = false := decide_eq_false (by omega)
    have t2 : decide (131072 < (m : Int)) = false := decide_eq_false (by omega)
    have t3 : decide (131072 < (l : Int)) = false := decide_eq_false (by omega)
    go_enter Try.func8, Try.ntmps8
    go_wp2
    go_ret
    exact ⟨_, rfl, rfl, fun _ => ⟨q, q', q''⟩⟩
/-- Some bool comes back; nothing is written. -/
def SomeB (w : World) (v : Bool) (e : Ending) (w' : World) : Prop := e = .returned (.bool v) ∧ w = w'
theorem range_any (a : Option Addr) (zs : List Int) (cap : Nat) (w : World) (hr : RowInt .i64 w a zs) (h : zs.length ≤ 1048576) :
    ∃ v, Calls Try.prog 9 #[.slice a zs.length cap] w (SomeB w v) := by
  refine ⟨zs.all (fun z => decide (0 ≤ z) && decide (z ≤ 255)), ?_⟩
  have HR := Lib.hid hr
  clear hr
  go_enter Try.func9, Try.ntmps9
  go_wp2_with fail
  go_loop [3] (fun i => ∃ k : Nat, k ≤ zs.length ∧ i = .int .i64 k ∧ Hid ((zs.take k).all (fun z => decide (0 ≤ z) && decide (z ≤ 255)) = true)) (fun i => zs.length - (intOf i).toNat)
  case atStart => exact ⟨0, Nat.zero_le _, rfl, Lib.hid rfl⟩
  case round =>
    obtain ⟨k, hk, rfl, HA⟩ := hrel
    by_cases hlt : k < zs.length
    · obtain ⟨sb, so, rfl, hc⟩ := HR.out.at hlt
      obtain ⟨z, hz⟩ : ∃ z, zs.getD k 0 = z := ⟨_, rfl⟩
      have hki : (k : Int) < (zs.length : Int) := by omega
      rw [hz] at hc
      have hzk : zs[k] = z := by rw [← hz, List.getD_eq_getElem?_getD, List.getElem?_eq_getElem hlt]; rfl
      have HZ := Lib.hid hzk
      have HT := Lib.hid (List.take_succ_eq_append_getElem hlt)
      have HM : Hid (z ∈ zs) := Lib.hid (hzk ▸ List.getElem_mem hlt)
      clear hz hzk
      rcases (show z < 0 ∨ (0 ≤ z ∧ 255 < z) ∨ (0 ≤ z ∧ z ≤ 255) by omega) with r | ⟨r, r'⟩ | ⟨r, r'⟩
      · have t1 : decide (z < 0) = true := decide_eq_true r
        go_wp2
        go_ret
        refine ⟨ret_bool ?_, rfl⟩
        exact (List.all_eq_false.2 ⟨z, HM.out, by simp; omega⟩).symm
      · have t1 : decide (z < 0) = false := decide_eq_false (by omega)
        have t2 : decide (255 < z) = true := decide_eq_true r'
        go_wp2
        go_ret
        refine ⟨ret_bool ?_, rfl⟩
        exact (List.all_eq_false.2 ⟨z, HM.out, by simp; omega⟩).symm
      · have t1 : decide (z < 0) = false := decide_eq_false (by omega)
        have t2 : decide (255 < z) = false := decide_eq_false (by omega)
        go_wp2
        go_round
        case rel => exact ⟨k + 1, by omega, by go_num, Lib.hid (by rw [HT.out, List.all_append, HA.out, HZ.out]; simp; omega)⟩
        case measure => first | (simp [intOf]; done) | (simp [intOf]; omega)
    · obtain rfl : k = zs.length := by omega
      go_wp2
      go_ret
      refine ⟨ret_bool ?_, rfl⟩
      have := HA.out
      rw [List.take_length] at this
      exact this.symm
theorem setHas_not (l : List E2) (ch : Int) : setHas true l ch = !(setHas false l ch) := by unfold setHas; split <;> rfl

end Go.Proofs.Ytkpnjhnopgbhlaa
