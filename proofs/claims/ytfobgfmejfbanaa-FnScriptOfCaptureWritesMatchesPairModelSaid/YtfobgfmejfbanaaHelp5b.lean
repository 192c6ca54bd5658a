/-
  Helpers of the two script laws of n005_5: the copies of ints and bools, the guards, minLen3, the checks of a script's shape. Their condition: lengths that fit an int.
-/
import Derived.Test.YtfobgfmejfbanaaHelp5
import Derived.BigGuardPart
namespace Go.Proofs.Ytfobgfmejfbanaa
open Go.RowKit
set_option linter.unusedVariables false
set_option linter.unusedSimpArgs false

/-- The bools bs lie one after the other from the address a on. -/
def RowB (w : World) (a : Option Addr) (bs : List Bool) : Prop :=
  0 < bs.length → ∃ b off, a = some ⟨b, off, none⟩ ∧ ∀ i, i < bs.length → w.cell? ⟨b, off + i, none⟩ = some (.bool (bs.getD i false))
theorem RowB.below {w w' : World} {a : Option Addr} {bs : List Bool} {B : Nat} (h : RowB w a bs) (hb : Below B w w') (hB : w.heap.size ≤ B) : RowB w' a bs := fun h0 => by
  obtain ⟨b, off, h1, h2⟩ := h h0
  exact ⟨b, off, h1, fun i hi => (hb.cell (p := ⟨b, off + i, none⟩) (Nat.lt_of_lt_of_le (lt_of_cell (h2 i hi)) hB)).trans (h2 i hi)⟩
theorem RowB.of_row {w : World} {g : Nat} {t : TypeId} {n : Nat} {f : Nat → Value} {bs : List Bool} (h : w.rowIs g t n f) (hn : bs.length ≤ n) (hf : ∀ i, i < bs.length → f i = .bool (bs.getD i false)) : RowB w (some ⟨g, 0, none⟩) bs :=
  fun _ => ⟨g, 0, rfl, fun i hi => by rw [Nat.zero_add, h.cell (by omega), hf i hi]⟩
theorem RowB.at {w : World} {a : Option Addr} {bs : List Bool} (h : RowB w a bs) {i : Nat} (hi : i < bs.length) : ∃ b off, a = some ⟨b, off, none⟩ ∧ w.cell? ⟨b, off + i, none⟩ = some (.bool (bs.getD i false)) := by
  obtain ⟨b, off, h1, h2⟩ := h (by omega)
  exact ⟨b, off, h1, h2 i hi⟩
theorem RowInt.at {k : IntKind} {w : World} {a : Option Addr} {zs : List Int} (h : RowInt k w a zs) {i : Nat} (hi : i < zs.length) : ∃ b off, a = some ⟨b, off, none⟩ ∧ w.cell? ⟨b, off + i, none⟩ = some (.int k (zs.getD i 0)) := by
  obtain ⟨b, off, h1, h2⟩ := h (by omega)
  exact ⟨b, off, h1, h2 i hi⟩
def CopiedB (w : World) (bs : List Bool) (e : Ending) (w' : World) : Prop :=
  ∃ a' c', e = .returned (.slice a' bs.length c') ∧ (a' = none → bs.length = 0) ∧ Fresh w.heap.size w' a' ∧ RowB w' a' bs ∧ Below w.heap.size w w'

theorem cpI_info : (Try.prog.info? 3).map (fun i => (i.zero, i.size, i.bytes)) = some (some (.int .i64 0), 1, 8) := by kernel_rfl
set_option maxHeartbeats 400000 in
/-- A copy by hand of a slice of integers: the same numbers in new memory; nothing that was there is written. -/
theorem cpI_any (a : Option Addr) (cap : Nat) (zs : List Int) (w : World) (h : RowInt .i64 w a zs) (hnil : a = none → zs.length = 0) (hl : zs.length ≤ 4194304) :
    Calls Try.prog 19 #[.slice a zs.length cap] w (Copied .i64 w zs) := by
  have qT : ∀ (w : World) (a : Option Addr) (n c n' c' : Nat), (binOp .eql 35 (.slice a n c) (.slice none n' c')).run Try.prog w = .ok (.bool a.isNone) w := fun w a n c n' c' => Lib.run_eql_slice_nil w _ _ a n c n' c' Try.underlying35
  cases a with
  | none =>
    have hz : zs = [] := List.length_eq_zero_iff.1 (hnil rfl)
    subst hz
    clear h hnil hl
    go_enter Try.func19, Try.ntmps19
    go_wp2
    go_ret
    exact ⟨none, 0, rfl, fun _ => rfl, fun _ hx => (by cases hx), fun h0 => absurd h0 (Nat.lt_irrefl _), Below.refl _ _⟩
  | some x =>
    clear hnil
    have hmk := fun W => run_make_row' (P := Try.prog) 35 3 (.int .i64 0) 8 Try.underlying35 cpI_info rfl .i64 .i64 zs.length (by omega) (by omega) W
    have hcell : ∀ j, j < zs.length → w.cell? (x.add j) = some (.int .i64 (zs.getD j 0)) := fun j hj => by
      obtain ⟨b, off, h1, h2⟩ := h (by omega)
      injection h1 with h1; subst h1; rw [addr_add]; exact h2 j hj
    have HC := Lib.hid hcell
    clear hcell h
    generalize hn : zs.length = n at *
    have HN := Lib.hid hn
    clear hn
    go_enter Try.func19, Try.ntmps19
    go_wp2
    go_loopw [4] (fun i wr => ∃ k : Nat, k ≤ n ∧ i = .int .i64 k ∧ wr.rowIs w.heap.size 3 n (fun j => if j < k then .int .i64 (zs.getD j 0) else .int .i64 0) ∧ Below w.heap.size w wr)
      (fun i _ => n - (intOf i).toNat)
    case atStart => exact ⟨0, Nat.zero_le _, rfl, (World.rowIs_made w (.int .i64 0) n 3).congr (fun i _ => by simp), (Below.refl _ _).alloc (Nat.le_refl _) _⟩
    case round =>
      obtain ⟨k, hk, rfl, hrow, hbel⟩ := hrel
      by_cases hlt : k < n
      · have hx : wr.cell? (x.add k) = some (.int .i64 (zs.getD k 0)) := by
          have h1 := HC.out k hlt
          exact (hbel.cell (lt_of_cell h1)).trans h1
        have hc0 : ∃ u : Int, wr.cell? ⟨w.heap.size, k, none⟩ = some (.int .i64 u) := ⟨0, by have := hrow.cell hlt; simpa using this⟩
        obtain ⟨u, hc⟩ := hc0
        have hf := hrow.frozen k
        have HR := Lib.hid hrow
        clear hrow
        go_wp2
        go_roundw
        case rel => exact ⟨k + 1, by omega, by go_num, (HR.out.set k _).congr (fun i _ => by split <;> (try split) <;> (try split) <;> first | rfl | (subst_vars; rfl) | omega), hbel.setCell (Nat.le_refl _) _⟩
        case measure => simp [intOf]; omega
      · obtain rfl : k = n := by omega
        have HR := Lib.hid hrow
        clear hrow
        go_wp2
        go_ret
        refine ⟨some ⟨w.heap.size, 0, none⟩, k, by rw [HN.out]; rfl, fun h0 => (by cases h0), fun x hx => ?_, RowInt.of_row HR.out (by rw [HN.out]; exact Nat.le_refl _) (fun i hi => ?_), hbel⟩
        · injection hx with hx; subst hx; exact ⟨Nat.le_refl _, HR.out.lt⟩
        · rw [if_pos (by rw [HN.out] at hi; exact hi)]


theorem cpB_info : (Try.prog.info? 4).map (fun i => (i.zero, i.size, i.bytes)) = some (some (.bool false), 1, 1) := by kernel_rfl
set_option maxHeartbeats 400000 in
/-- A copy by hand of a slice of integers: the same numbers in new memory; nothing that was there is written. -/
theorem cpB_any (a : Option Addr) (cap : Nat) (zs : List Bool) (w : World) (h : RowB w a zs) (hnil : a = none → zs.length = 0) (hl : zs.length ≤ 4194304) :
    Calls Try.prog 18 #[.slice a zs.length cap] w (CopiedB w zs) := by
  have qT : ∀ (w : World) (a : Option Addr) (n c n' c' : Nat), (binOp .eql 34 (.slice a n c) (.slice none n' c')).run Try.prog w = .ok (.bool a.isNone) w := fun w a n c n' c' => Lib.run_eql_slice_nil w _ _ a n c n' c' Try.underlying34
  cases a with
  | none =>
    have hz : zs = [] := List.length_eq_zero_iff.1 (hnil rfl)
    subst hz
    clear h hnil hl
    go_enter Try.func18, Try.ntmps18
    go_wp2
    go_ret
    exact ⟨none, 0, rfl, fun _ => rfl, fun _ hx => (by cases hx), fun h0 => absurd h0 (Nat.lt_irrefl _), Below.refl _ _⟩
  | some x =>
    clear hnil
    have hmk := fun W => run_make_row' (P := Try.prog) 34 4 (.bool false) 1 Try.underlying34 cpB_info rfl .i64 .i64 zs.length (by omega) (by omega) W
    have hcell : ∀ j, j < zs.length → w.cell? (x.add j) = some (.bool (zs.getD j false)) := fun j hj => by
      obtain ⟨b, off, h1, h2⟩ := h (by omega)
      injection h1 with h1; subst h1; rw [addr_add]; exact h2 j hj
    have HC := Lib.hid hcell
    clear hcell h
    generalize hn : zs.length = n at *
    have HN := Lib.hid hn
    clear hn
    go_enter Try.func18, Try.ntmps18
    go_wp2
    go_loopw [4] (fun i wr => ∃ k : Nat, k ≤ n ∧ i = .int .i64 k ∧ wr.rowIs w.heap.size 4 n (fun j => if j < k then .bool (zs.getD j false) else .bool false) ∧ Below w.heap.size w wr)
      (fun i _ => n - (intOf i).toNat)
    case atStart => exact ⟨0, Nat.zero_le _, rfl, (World.rowIs_made w (.bool false) n 4).congr (fun i _ => by simp), (Below.refl _ _).alloc (Nat.le_refl _) _⟩
    case round =>
      obtain ⟨k, hk, rfl, hrow, hbel⟩ := hrel
      by_cases hlt : k < n
      · have hx : wr.cell? (x.add k) = some (.bool (zs.getD k false)) := by
          have h1 := HC.out k hlt
          exact (hbel.cell (lt_of_cell h1)).trans h1
        have hc0 : ∃ u : Bool, wr.cell? ⟨w.heap.size, k, none⟩ = some (.bool u) := ⟨false, by have := hrow.cell hlt; simpa using this⟩
        obtain ⟨u, hc⟩ := hc0
        have hf := hrow.frozen k
        have HR := Lib.hid hrow
        clear hrow
        go_wp2
        go_roundw
        case rel => exact ⟨k + 1, by omega, by go_num, (HR.out.set k _).congr (fun i _ => by split <;> (try split) <;> (try split) <;> first | rfl | (subst_vars; rfl) | omega), hbel.setCell (Nat.le_refl _) _⟩
        case measure => simp [intOf]; omega
      · obtain rfl : k = n := by omega
        have HR := Lib.hid hrow
        clear hrow
        go_wp2
        go_ret
        refine ⟨some ⟨w.heap.size, 0, none⟩, k, by rw [HN.out]; rfl, fun h0 => (by cases h0), fun x hx => ?_, RowB.of_row HR.out (by rw [HN.out]; exact Nat.le_refl _) (fun i hi => ?_), hbel⟩
        · injection hx with hx; subst hx; exact ⟨Nat.le_refl _, HR.out.lt⟩
        · rw [if_pos (by rw [HN.out] at hi; exact hi)]


theorem gC_any (a : Option Addr) (n cap : Nat) (b : Option Addr) (m capb : Nat) (c : Option Addr) (l capc : Nat) (hn : n ≤ 9223372036854775807) (hm : m ≤ 9223372036854775807) (hl : l ≤ 9223372036854775807) (w : World) : Calls Try.prog 16 #[.slice a n cap, .slice b m capb, .slice c l capc] w fun e w' => e = .returned (.bool (decide (n + m + l ≤ 1048576))) ∧ w = w' := by
  rcases (show 1048576 < n ∨ (n ≤ 1048576 ∧ 1048576 < m) ∨ (n ≤ 1048576 ∧ m ≤ 1048576 ∧ 1048576 < n + m) ∨ (n + m ≤ 1048576 ∧ 1048576 < l) ∨ (n + m ≤ 1048576 ∧ l ≤ 1048576 ∧ 1048576 < n + m + l) ∨ n + m + l ≤ 1048576 by omega) with h | ⟨h, h'⟩ | ⟨h, h', h''⟩ | ⟨h, h'⟩ | ⟨h, h', h''⟩ | h
  all_goals
    go_enter Try.func16, Try.ntmps16
    go_wp2
    go_ret
    exact ⟨ret_bool (by simp; omega), rfl⟩

theorem gP_any (a : Option Addr) (n cap : Nat) (b : Option Addr) (m capb : Nat) (c : Option Addr) (l capc : Nat) (hn : n ≤ 9223372036854775807) (hm : m ≤ 9223372036854775807) (hl : l ≤ 9223372036854775807) (w : World) : Calls Try.prog 23 #[.slice a n cap, .slice b m capb, .slice c l capc] w fun e w' => e = .returned (.bool (decide (n + m + l ≤ 1048576))) ∧ w = w' := by
  rcases (show 1048576 < n ∨ (n ≤ 1048576 ∧ 1048576 < m) ∨ (n ≤ 1048576 ∧ m ≤ 1048576 ∧ 1048576 < n + m) ∨ (n + m ≤ 1048576 ∧ 1048576 < l) ∨ (n + m ≤ 1048576 ∧ l ≤ 1048576 ∧ 1048576 < n + m + l) ∨ n + m + l ≤ 1048576 by omega) with h | ⟨h, h'⟩ | ⟨h, h', h''⟩ | ⟨h, h'⟩ | ⟨h, h', h''⟩ | h
  all_goals
    go_enter Try.func23, Try.ntmps23
    go_wp2
    go_ret
    exact ⟨ret_bool (by simp; omega), rfl⟩

theorem minLen3_any (a b c : Nat) (ha : a ≤ 1048576) (hb : b ≤ 1048576) (hc : c ≤ 1048576) (w : World) : Calls Try.prog 20 #[.int .i64 (a : Int), .int .i64 (b : Int), .int .i64 (c : Int)] w fun e w' => e = .returned (.int .i64 ((min a (min b c) : Nat) : Int)) ∧ w = w' := by
  by_cases h1 : b < a
  · by_cases h2 : c < b
    · have hm : min a (min b c) = c := by omega
      rw [hm]
      clear hm
      go_enter Try.func20, Try.ntmps20
      go_wp2
      go_ret
      exact ⟨rfl, rfl⟩
    · have hm : min a (min b c) = b := by omega
      rw [hm]
      clear hm
      go_enter Try.func20, Try.ntmps20
      go_wp2
      go_ret
      exact ⟨rfl, rfl⟩
  · by_cases h2 : c < a
    · have hm : min a (min b c) = c := by omega
      rw [hm]
      clear hm
      go_enter Try.func20, Try.ntmps20
      go_wp2
      go_ret
      exact ⟨rfl, rfl⟩
    · have hm : min a (min b c) = a := by omega
      rw [hm]
      clear hm
      go_enter Try.func20, Try.ntmps20
      go_wp2
      go_ret
      exact ⟨rfl, rfl⟩

def ShapeQ (w : World) (n l : Nat) (zs : List Int) (e : Ending) (w' : World) : Prop := ∃ v, e = .returned (.bool v) ∧ w = w' ∧ (v = false → n ≤ 4096 ∧ zs.length ≤ 4096 ∧ l ≤ 4096 ∧ ∀ j, j < zs.length → 0 ≤ zs.getD j 0 ∧ zs.getD j 0 ≤ 4096)
theorem shape_any (a : Option Addr) (n capa : Nat) (b : Option Addr) (zs : List Int) (capb : Nat) (c : Option Addr) (l capc : Nat) (w : World) (hr : RowInt .i64 w b zs) (h : n + zs.length + l ≤ 1048576) :
    Calls Try.prog 17 #[.slice a n capa, .slice b zs.length capb, .slice c l capc] w (ShapeQ w n l zs) := by
  have HR := Lib.hid hr
  clear hr
  rcases (show 4096 < n ∨ (n ≤ 4096 ∧ 4096 < zs.length) ∨ (n ≤ 4096 ∧ zs.length ≤ 4096 ∧ 4096 < l) ∨ (n ≤ 4096 ∧ zs.length ≤ 4096 ∧ l ≤ 4096) by omega) with q | ⟨q, q'⟩ | ⟨q, q', q''⟩ | ⟨q, q', q''⟩
  · have t1 : decide (4096 < (n : Int)) = true := decide_eq_true (by omega)
    go_enter Try.func17, Try.ntmps17
    go_wp2_with fail
    go_ret
    exact ⟨true, rfl, rfl, fun h => by cases h⟩
  · have t1 : decide (4096 < (n : Int)) = false := decide_eq_false (by omega)
    have t2 : decide (4096 < (zs.length : Int)) = true := decide_eq_true (by omega)
    go_enter Try.func17, Try.ntmps17
    go_wp2_with fail
    go_ret
    exact ⟨true, rfl, rfl, fun h => by cases h⟩
  · have t1 : decide (4096 < (n : Int)) = false := decide_eq_false (by omega)
    have t2 : decide (4096 < (zs.length : Int)) = false := decide_eq_false (by omega)
    have t3 : decide (4096 < (l : Int)) = true := decide_eq_true (by omega)
    go_enter Try.func17, Try.ntmps17
    go_wp2_with fail
    go_ret
    exact ⟨true, rfl, rfl, fun h => by cases h⟩
  · have t1 : decide (4096 < (n : Int)) = false := decide_eq_false (by omega)
    have t2 : decide (4096 < (zs.length : Int)) = false := decide_eq_false (by omega)
    have t3 : decide (4096 < (l : Int)) = false := decide_eq_false (by omega)
    go_enter Try.func17, Try.ntmps17
    go_wp2_with fail
    go_loop [7] (fun i => ∃ k : Nat, k ≤ zs.length ∧ i = .int .i64 k ∧ Hid (∀ j, j < k → 0 ≤ zs.getD j 0 ∧ zs.getD j 0 ≤ 4096)) (fun i => zs.length - (intOf i).toNat)
    case atStart => exact ⟨0, Nat.zero_le _, rfl, Lib.hid fun j hj => absurd hj (Nat.not_lt_zero _)⟩
    case round =>
      obtain ⟨k, hk, rfl, HA⟩ := hrel
      by_cases hlt : k < zs.length
      · obtain ⟨sb, so, rfl, hc⟩ := HR.out.at hlt
        obtain ⟨z, hz⟩ : ∃ z, zs.getD k 0 = z := ⟨_, rfl⟩
        have hki : (k : Int) < (zs.length : Int) := by omega
        rw [hz] at hc
        have HZ := Lib.hid hz
        clear hz
        rcases (show z < 0 ∨ (0 ≤ z ∧ 4096 < z) ∨ (0 ≤ z ∧ z ≤ 4096) by omega) with r | ⟨r, r'⟩ | ⟨r, r'⟩
        · have t1 : decide (z < 0) = true := decide_eq_true r
          go_wp2_with fail
          go_ret
          exact ⟨true, rfl, rfl, fun h => by cases h⟩
        · have t1 : decide (z < 0) = false := decide_eq_false (by omega)
          have t2 : decide (4096 < z) = true := decide_eq_true r'
          go_wp2_with fail
          go_ret
          exact ⟨true, rfl, rfl, fun h => by cases h⟩
        · have t1 : decide (z < 0) = false := decide_eq_false (by omega)
          have t2 : decide (4096 < z) = false := decide_eq_false (by omega)
          go_wp2_with fail
          go_round
          case rel =>
            refine ⟨k + 1, by omega, by go_num, Lib.hid fun j hj => ?_⟩
            rcases (show j < k ∨ j = k by omega) with h | rfl
            · exact HA.out j h
            · rw [HZ.out]; exact ⟨r, r'⟩
          case measure => first | (simp [intOf]; done) | (simp [intOf]; omega)
      · obtain rfl : k = zs.length := by omega
        go_wp2_with fail
        go_ret
        exact ⟨false, rfl, rfl, fun _ => ⟨q, q', q'', HA.out⟩⟩

def PossQ (w : World) (zs : List Int) (e : Ending) (w' : World) : Prop := ∃ v, e = .returned (.bool v) ∧ w = w' ∧ (v = false → ∀ j, j < zs.length → 0 ≤ zs.getD j 0 ∧ zs.getD j 0 ≤ 2147483647)
theorem poss_any (b : Option Addr) (zs : List Int) (capb : Nat) (w : World) (hr : RowInt .i64 w b zs) (h : zs.length ≤ 1048576) :
    Calls Try.prog 24 #[.slice b zs.length capb] w (PossQ w zs) := by
  have HR := Lib.hid hr
  clear hr
  go_enter Try.func24, Try.ntmps24
  go_wp2_with fail
  go_loop [3] (fun i => ∃ k : Nat, k ≤ zs.length ∧ i = .int .i64 k ∧ Hid (∀ j, j < k → 0 ≤ zs.getD j 0 ∧ zs.getD j 0 ≤ 2147483647)) (fun i => zs.length - (intOf i).toNat)
  case atStart => exact ⟨0, Nat.zero_le _, rfl, Lib.hid fun j hj => absurd hj (Nat.not_lt_zero _)⟩
  case round =>
    obtain ⟨k, hk, rfl, HA⟩ := hrel
    by_cases hlt : k < zs.length
    · obtain ⟨sb, so, rfl, hc⟩ := HR.out.at hlt
      obtain ⟨z, hz⟩ : ∃ z, zs.getD k 0 = z := ⟨_, rfl⟩
      have hki : (k : Int) < (zs.length : Int) := by omega
      rw [hz] at hc
      have HZ := Lib.hid hz
      clear hz
      rcases (show z < 0 ∨ (0 ≤ z ∧ 2147483647 < z) ∨ (0 ≤ z ∧ z ≤ 2147483647) by omega) with r | ⟨r, r'⟩ | ⟨r, r'⟩
      · have t1 : decide (z < 0) = true := decide_eq_true r
        go_wp2_with fail
        go_ret
        exact ⟨true, rfl, rfl, fun h => by cases h⟩
      · have t1 : decide (z < 0) = false := decide_eq_false (by omega)
        have t2 : decide (2147483647 < z) = true := decide_eq_true r'
        go_wp2_with fail
        go_ret
        exact ⟨true, rfl, rfl, fun h => by cases h⟩
      · have t1 : decide (z < 0) = false := decide_eq_false (by omega)
        have t2 : decide (2147483647 < z) = false := decide_eq_false (by omega)
        go_wp2_with fail
        go_round
        case rel =>
          refine ⟨k + 1, by omega, by go_num, Lib.hid fun j hj => ?_⟩
          rcases (show j < k ∨ j = k by omega) with h | rfl
          · exact HA.out j h
          · rw [HZ.out]; exact ⟨r, r'⟩
        case measure => first | (simp [intOf]; done) | (simp [intOf]; omega)
    · obtain rfl : k = zs.length := by omega
      go_wp2_with fail
      go_ret
      exact ⟨false, rfl, rfl, fun _ => HA.out⟩

end Go.Proofs.Ytfobgfmejfbanaa
