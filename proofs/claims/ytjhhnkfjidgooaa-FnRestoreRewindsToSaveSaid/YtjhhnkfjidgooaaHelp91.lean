/-
  The contracts of the statements' own helpers of n005_91: the copy of a byte slice, the guards on lengths, zzAdvance, zzPosAfter, zzByteAt. Their condition: the slices can be read.
-/
import Derived.Test.YtjhhnkfjidgooaaScan2
namespace Go.Proofs.Ytjhhnkfjidgooaa
open Go.RowKit
set_option linter.unusedVariables false
set_option linter.unusedSimpArgs false

theorem copyB_info : (Try.prog.info? 5).map (fun i => (i.zero, i.size, i.bytes)) = some (some (.int .u8 0), 1, 1) := by kernel_rfl
set_option maxHeartbeats 400000 in
/-- A copy by hand of a slice of integers: the same numbers in new memory; nothing that was there is written. -/
theorem copyB_any (a : Option Addr) (cap : Nat) (zs : List Int) (w : World) (h : RowInt .u8 w a zs) (hnil : a = none → zs.length = 0) (hl : zs.length ≤ 4194304) :
    Calls Try.prog 11 #[.slice a zs.length cap] w (Copied .u8 w zs) := by
  have qT : ∀ (w : World) (a : Option Addr) (n c n' c' : Nat), (binOp .eql 22 (.slice a n c) (.slice none n' c')).run Try.prog w = .ok (.bool a.isNone) w := fun w a n c n' c' => Lib.run_eql_slice_nil w _ _ a n c n' c' Try.underlying22
  cases a with
  | none =>
    have hz : zs = [] := List.length_eq_zero_iff.1 (hnil rfl)
    subst hz
    clear h hnil hl
    go_enter Try.func11, Try.ntmps11
    go_wp2
    go_ret
    exact ⟨none, 0, rfl, fun _ => rfl, fun _ hx => (by cases hx), fun h0 => absurd h0 (Nat.lt_irrefl _), Below.refl _ _⟩
  | some x =>
    clear hnil
    have hmk := fun W => run_make_row' (P := Try.prog) 22 5 (.int .u8 0) 1 Try.underlying22 copyB_info rfl .i64 .i64 zs.length (by omega) (by omega) W
    have hcell : ∀ j, j < zs.length → w.cell? (x.add j) = some (.int .u8 (zs.getD j 0)) := fun j hj => by
      obtain ⟨b, off, h1, h2⟩ := h (by omega)
      injection h1 with h1; subst h1; rw [addr_add]; exact h2 j hj
    have HC := Lib.hid hcell
    clear hcell h
    generalize hn : zs.length = n at *
    have HN := Lib.hid hn
    clear hn
    go_enter Try.func11, Try.ntmps11
    go_wp2
    go_loopw [4] (fun i wr => ∃ k : Nat, k ≤ n ∧ i = .int .i64 k ∧ wr.rowIs w.heap.size 5 n (fun j => if j < k then .int .u8 (zs.getD j 0) else .int .u8 0) ∧ Below w.heap.size w wr)
      (fun i _ => n - (intOf i).toNat)
    case atStart => exact ⟨0, Nat.zero_le _, rfl, (World.rowIs_made w (.int .u8 0) n 5).congr (fun i _ => by simp), (Below.refl _ _).alloc (Nat.le_refl _) _⟩
    case round =>
      obtain ⟨k, hk, rfl, hrow, hbel⟩ := hrel
      by_cases hlt : k < n
      · have hx : wr.cell? (x.add k) = some (.int .u8 (zs.getD k 0)) := by
          have h1 := HC.out k hlt
          exact (hbel.cell (lt_of_cell h1)).trans h1
        have hc0 : ∃ u : Int, wr.cell? ⟨w.heap.size, k, none⟩ = some (.int .u8 u) := ⟨0, by have := hrow.cell hlt; simpa using this⟩
        obtain ⟨u, hc⟩ := hc0
        have hf := hrow.frozen k
        have HR := Lib.hid hrow
        clear hrow
        go_wp2
        go_roundw
        case rel => exact ⟨k + 1, by omega, by go_num, (HR.out.set k _).congr (fun i _ => by split <;> (try split) <;> (try split) <;> first | rfl | (subst_vars; rfl) | omega), hbel.setCell (Nat.le_refl _) _⟩
        case measure => simp [intOf]; omega
      · obtain rfl : k = n := by omega
        have HR := Lib.hid hrow
        clear hrow
        go_wp2
        go_ret
        refine ⟨some ⟨w.heap.size, 0, none⟩, k, by rw [HN.out]; rfl, fun h0 => (by cases h0), fun x hx => ?_, RowInt.of_row HR.out (by rw [HN.out]; exact Nat.le_refl _) (fun i hi => ?_), hbel⟩
        · injection hx with hx; subst hx; exact ⟨Nat.le_refl _, HR.out.lt⟩
        · rw [if_pos (by rw [HN.out] at hi; exact hi)]


theorem adv_any {w : World} {b : Nat} {ao : Option Addr} {cap : Nat} {zs : List Int} {c s : Nat} (k : Nat) (hk : k ≤ 65536) (h : Scan w b ao cap zs c s) :
    Calls Try.prog 13 #[.pointer (some ⟨b, 0, none⟩), .int .i64 (k : Int)] w fun e w' => e = .returned (.tuple #[]) ∧ Scan w' b ao cap zs (min (c + k) (zs.length + 1)) s ∧ w.grownBy w' (some b) := by
  have H := Lib.hid h
  clear h
  go_enter Try.func13, Try.ntmps13
  go_wp2
  go_loopw [4] (fun i wr => ∃ j : Nat, j ≤ k ∧ i = .int .i64 j ∧ Scan wr b ao cap zs (min (c + j) (zs.length + 1)) s ∧ w.grownBy wr (some b)) (fun i _ => k - (intOf i).toNat)
  case atStart => exact ⟨0, Nat.zero_le _, rfl, (by have := H.out.cb; rw [show min (c + 0) (zs.length + 1) = c by omega]; exact H.out), one_refl _ _⟩
  case round =>
    obtain ⟨j, hj, rfl, hs, hg⟩ := hrel
    have HS := Lib.hid hs
    have HG := Lib.hid hg
    clear hs hg
    by_cases hlt : j < k
    · go_wp2_with (go_at_call 19; refine (next_any HS.out).mono ?_; rintro e w1 ⟨rfl, hs1, hg1⟩)
      go_roundw
      case rel =>
        refine ⟨j + 1, by omega, by go_num, ?_, one_trans HG.out hg1⟩
        rw [show min (c + (j + 1)) (zs.length + 1) = min (min (c + j) (zs.length + 1) + 1) (zs.length + 1) by omega]
        exact hs1
      case measure => simp [intOf]; omega
    · obtain rfl : j = k := by omega
      go_wp2
      go_end0
      exact ⟨rfl, HS.out, HG.out⟩

theorem posOf_min (n k : Nat) : posOf n (min k (n + 1)) = posOf n k := by
  unfold posOf
  rcases Nat.lt_or_ge k (n + 1) with h | h
  · rw [Nat.min_eq_left (by omega)]
  · rw [Nat.min_eq_right h, if_neg (by omega), if_neg (by omega), if_neg (by omega), if_neg (by omega)]
theorem chr_min (zs : List Int) (k : Nat) : chr zs (min k (zs.length + 1)) = chr zs k := by
  unfold chr
  rcases Nat.lt_or_ge k (zs.length + 1) with h | h
  · rw [Nat.min_eq_left (by omega)]
  · rw [Nat.min_eq_right h, if_neg (by omega), if_neg (by omega)]

theorem posAfter_any (n k : Nat) (hn : n ≤ 140737488355328) (hk : k ≤ 1000000) (w : World) : Calls Try.prog 15 #[.int .i64 (n : Int), .int .i64 (k : Int)] w fun e w' => e = .returned (.int .i64 (posOf n k)) ∧ w = w' := by
  rcases (show k = 0 ∨ (0 < k ∧ k ≤ n) ∨ (0 < k ∧ n < k) by omega) with rfl | ⟨h1, h2⟩ | ⟨h1, h2⟩
  · go_enter Try.func15, Try.ntmps15
    go_wp2
    go_ret
    exact ⟨rfl, rfl⟩
  · have e1 : posOf n k = (k : Int) - 1 := by unfold posOf; rw [if_neg (by omega), if_pos h2]
    have E := Lib.hid e1
    clear e1
    go_enter Try.func15, Try.ntmps15
    go_wp2
    go_ret
    exact ⟨ret_int E.out.symm, rfl⟩
  · have e1 : posOf n k = -1 := by unfold posOf; rw [if_neg (by omega), if_neg (by omega)]
    have E := Lib.hid e1
    clear e1
    go_enter Try.func15, Try.ntmps15
    go_wp2
    go_ret
    exact ⟨ret_int E.out.symm, rfl⟩

theorem byteAt_raw {b off n cap k : Nat} {z : Int} (h1 : k < n) (hz1 : 0 ≤ z) (hz2 : z ≤ 255) (hl : n ≤ 140737488355328) (w : World) (hc : w.cell? ⟨b, off + k, none⟩ = some (.int .u8 z)) :
    Calls Try.prog 20 #[.slice (some ⟨b, off, none⟩) n cap, .int .i64 (k : Int)] w fun e w' => e = .returned (.int .i64 z) ∧ w = w' := by
  have t1 : decide ((k : Int) < (n : Int)) = true := by simp; omega
  go_enter Try.func20, Try.ntmps20
  go_wp2
  go_ret
  exact ⟨rfl, rfl⟩

theorem byteAt_any (a : Option Addr) (cap k : Nat) (zs : List Int) (hk : k ≤ 2000000) (hl : zs.length ≤ 140737488355328) (hb : ∀ z, z ∈ zs → 0 ≤ z ∧ z ≤ 255) (w : World) (h : RowInt .u8 w a zs) :
    Calls Try.prog 20 #[.slice a zs.length cap, .int .i64 (k : Int)] w fun e w' => e = .returned (.int .i64 (chr zs k)) ∧ w = w' := by
  rcases (show k < zs.length ∨ ¬ k < zs.length by omega) with h1 | h1
  · obtain ⟨b, off, rfl, hc⟩ := h (by omega)
    have e1 : chr zs k = zs.getD k 0 := by unfold chr; rw [if_pos h1]
    rw [e1]
    exact byteAt_raw h1 (getD_byte hb k).1 (getD_byte hb k).2 hl w (hc k h1)
  · have e1 : chr zs k = -1 := by unfold chr; rw [if_neg h1]
    have E := Lib.hid e1
    clear e1 h hb
    have t1 : decide ((k : Int) < (zs.length : Int)) = false := by simp; omega
    go_enter Try.func20, Try.ntmps20
    go_wp2
    go_ret
    exact ⟨ret_int E.out.symm, rfl⟩

/-! The guards on lengths. -/
theorem g_FnCurrentPosAfterKNexts (a : Option Addr) (n cap : Nat) (x0 : Int) (hn : n ≤ 9223372036854775807) (w : World) : Calls Try.prog 10 #[.slice a n cap, .int .i64 x0] w fun e w' => e = .returned (.bool (decide (n ≤ 1048576))) ∧ w = w' := by
  by_cases h : n ≤ 1048576
  all_goals
    go_enter Try.func10, Try.ntmps10
    go_wp2
    go_ret
    exact ⟨ret_bool (by simp; omega), rfl⟩
theorem g_FnLatestSaveWins (a : Option Addr) (n cap : Nat) (x0 : Int) (x1 : Int) (x2 : Int) (hn : n ≤ 9223372036854775807) (w : World) : Calls Try.prog 16 #[.slice a n cap, .int .i64 x0, .int .i64 x1, .int .i64 x2] w fun e w' => e = .returned (.bool (decide (n ≤ 1048576))) ∧ w = w' := by
  by_cases h : n ≤ 1048576
  all_goals
    go_enter Try.func16, Try.ntmps16
    go_wp2
    go_ret
    exact ⟨ret_bool (by simp; omega), rfl⟩
theorem g_FnRestoreWithoutSaveRewindsToStart (a : Option Addr) (n cap : Nat) (x0 : Int) (hn : n ≤ 9223372036854775807) (w : World) : Calls Try.prog 21 #[.slice a n cap, .int .i64 x0] w fun e w' => e = .returned (.bool (decide (n ≤ 1048576))) ∧ w = w' := by
  by_cases h : n ≤ 1048576
  all_goals
    go_enter Try.func21, Try.ntmps21
    go_wp2
    go_ret
    exact ⟨ret_bool (by simp; omega), rfl⟩
theorem g_FnLengthCountsBytesBeforeEOS (a : Option Addr) (n cap : Nat) (hn : n ≤ 9223372036854775807) (w : World) : Calls Try.prog 22 #[.slice a n cap] w fun e w' => e = .returned (.bool (decide (n ≤ 1048576))) ∧ w = w' := by
  by_cases h : n ≤ 1048576
  all_goals
    go_enter Try.func22, Try.ntmps22
    go_wp2
    go_ret
    exact ⟨ret_bool (by simp; omega), rfl⟩
theorem g_FnPeekKeepsCurrentPos (a : Option Addr) (n cap : Nat) (x0 : Int) (hn : n ≤ 9223372036854775807) (w : World) : Calls Try.prog 24 #[.slice a n cap, .int .i64 x0] w fun e w' => e = .returned (.bool (decide (n ≤ 1048576))) ∧ w = w' := by
  by_cases h : n ≤ 1048576
  all_goals
    go_enter Try.func24, Try.ntmps24
    go_wp2
    go_ret
    exact ⟨ret_bool (by simp; omega), rfl⟩
theorem g_FnRestoreRewindsToSave (a : Option Addr) (n cap : Nat) (x0 : Int) (a' : Option Addr) (n' cap' : Nat) (hn : n ≤ 9223372036854775807) (hn' : n' ≤ 9223372036854775807) (w : World) : Calls Try.prog 26 #[.slice a n cap, .int .i64 x0, .slice a' n' cap'] w fun e w' => e = .returned (.bool (decide (n ≤ 1048576 ∧ n + n' ≤ 1048576))) ∧ w = w' := by
  rcases (show 1048576 < n ∨ (n ≤ 1048576 ∧ 1048576 < n') ∨ (n ≤ 1048576 ∧ n' ≤ 1048576 ∧ 1048576 < n + n') ∨ (n ≤ 1048576 ∧ n' ≤ 1048576 ∧ n + n' ≤ 1048576) by omega) with h | ⟨h, h'⟩ | ⟨h, h', h''⟩ | ⟨h, h', h''⟩
  all_goals
    go_enter Try.func26, Try.ntmps26
    go_wp2
    go_ret
    exact ⟨ret_bool (by simp; omega), rfl⟩
theorem g_FnLengthAndPosInvariantUnderScript (a : Option Addr) (n cap : Nat) (a' : Option Addr) (n' cap' : Nat) (hn : n ≤ 9223372036854775807) (hn' : n' ≤ 9223372036854775807) (w : World) : Calls Try.prog 27 #[.slice a n cap, .slice a' n' cap'] w fun e w' => e = .returned (.bool (decide (n ≤ 1048576 ∧ n + n' ≤ 1048576))) ∧ w = w' := by
  rcases (show 1048576 < n ∨ (n ≤ 1048576 ∧ 1048576 < n') ∨ (n ≤ 1048576 ∧ n' ≤ 1048576 ∧ 1048576 < n + n') ∨ (n ≤ 1048576 ∧ n' ≤ 1048576 ∧ n + n' ≤ 1048576) by omega) with h | ⟨h, h'⟩ | ⟨h, h', h''⟩ | ⟨h, h', h''⟩
  all_goals
    go_enter Try.func27, Try.ntmps27
    go_wp2
    go_ret
    exact ⟨ret_bool (by simp; omega), rfl⟩


theorem zzNew_any (a : Option Addr) (c : Nat) (zs : List Int) (w : World) (h : RowInt .u8 w a zs) (hl : zs.length ≤ 140737488355328) (hb : ∀ z, z ∈ zs → 0 ≤ z ∧ z ≤ 255) :
    Calls Try.prog 12 #[.slice a zs.length c] w fun e w' => e = .returned (.pointer (some ⟨w.heap.size, 0, none⟩)) ∧ Scan w' w.heap.size a c zs 0 0 ∧ Below w.heap.size w w' := by
  have HR := Lib.hid h
  have HB := Lib.hid hb
  clear h hb
  go_enter Try.func12, Try.ntmps12
  go_wp2_with (go_at_call 28; refine (newScan_any _ _ _ _).mono ?_; rintro e w' ⟨rfl, rfl⟩)
  go_ret
  exact ⟨rfl, Scan.new HR.out hl HB.out, (Below.refl _ _).alloc (Nat.le_refl _) _⟩
theorem u8_bd {n : Int} (h : (Lit.int .u8 n).wf = true) : 0 ≤ n ∧ n ≤ 255 := bounds_u8 h

section
variable {w : World} {b : Nat} {ao : Option Addr} {cap : Nat} {zs : List Int} {c s k : Nat}
theorem posOf_eq {n c k : Nat} (h : min c (n + 1) = min k (n + 1)) : posOf n c = posOf n k := by rw [← posOf_min n c, h, posOf_min]
theorem chr_eq {zs : List Int} {c k : Nat} (h : min c (zs.length + 1) = min k (zs.length + 1)) : chr zs c = chr zs k := by rw [← chr_min zs c, h, chr_min]
theorem cur_is (h : Scan w b ao cap zs c s) (hk : posOf zs.length c = posOf zs.length k) :
    Calls Try.prog 14 #[.pointer (some ⟨b, 0, none⟩)] w fun e w' => e = .returned (.int .i64 (posOf zs.length k)) ∧ w = w' := hk ▸ cur_any h
theorem next_is (h : Scan w b ao cap zs c s) (hk : chr zs c = chr zs k) :
    Calls Try.prog 19 #[.pointer (some ⟨b, 0, none⟩)] w fun e w' => e = .returned (.int .i64 (chr zs k)) ∧ Scan w' b ao cap zs (min (c + 1) (zs.length + 1)) s ∧ w.grownBy w' (some b) := hk ▸ next_any h
theorem peek_is (h : Scan w b ao cap zs c s) (hk : chr zs c = chr zs k) :
    Calls Try.prog 25 #[.pointer (some ⟨b, 0, none⟩)] w fun e w' => e = .returned (.int .i64 (chr zs k)) ∧ Scan w' b ao cap zs (peekC zs.length c) s ∧ w.grownBy w' (some b) := hk ▸ peek_any h
end
theorem posAfter_int (n k : Nat) (x : Int) (hx : x = (k : Int)) (hn : n ≤ 140737488355328) (hk : k ≤ 1000000) (w : World) : Calls Try.prog 15 #[.int .i64 (n : Int), .int .i64 x] w fun e w' => e = .returned (.int .i64 (posOf n k)) ∧ w = w' := hx ▸ posAfter_any n k hn hk w
theorem byteAt_int (a : Option Addr) (cap k : Nat) (x : Int) (zs : List Int) (hx : x = (k : Int)) (hk : k ≤ 2000000) (hl : zs.length ≤ 140737488355328) (hb : ∀ z, z ∈ zs → 0 ≤ z ∧ z ≤ 255) (w : World) (h : RowInt .u8 w a zs) :
    Calls Try.prog 20 #[.slice a zs.length cap, .int .i64 x] w fun e w' => e = .returned (.int .i64 (chr zs k)) ∧ w = w' := hx ▸ byteAt_any a cap k zs hk hl hb w h
theorem below_fin {w w1 w2 w3 : World} {g : Nat} (h1 : Below w.heap.size w w1) (h2 : Below g w1 w2) (hg : w1.heap.size = g) (h3 : w2.grownBy w3 (some g)) : Below w.heap.size w w3 := by
  subst hg
  exact h1.trans ((h2.mono h1.size).trans (one_below h3 h1.size (Nat.le_trans h1.size h2.size)))
theorem row_fin {k : IntKind} {B : Nat} {w1 w2 w3 : World} {g : Nat} {a : Option Addr} {zs : List Int} (h : RowInt k w1 a zs) (hf : Fresh B w1 a) (h2 : Below g w1 w2) (hg : w1.heap.size = g) (h3 : w2.grownBy w3 (some g)) : RowInt k w3 a zs := by
  subst hg
  exact (h.below h2 (Nat.le_refl _)).grown h3 (fun x hx e => by injection e with e; have := (hf x hx).2; omega)

/-- CurrentPos, its answer in two ways: the end; a place below the length (below 1 for an empty source). -/
theorem cur_split {w : World} {b : Nat} {ao : Option Addr} {cap : Nat} {zs : List Int} {c s : Nat} (h : Scan w b ao cap zs c s) :
    Calls Try.prog 14 #[.pointer (some ⟨b, 0, none⟩)] w fun e w' => (e = .returned (.int .i64 (-1)) ∧ w = w') ∨ ∃ p : Int, e = .returned (.int .i64 p) ∧ 0 ≤ p ∧ (p < zs.length ∨ p < 1) ∧ (p != -1) = true ∧ w = w' := by
  refine (cur_any h).mono ?_
  rintro e w' ⟨rfl, rfl⟩
  have hcb := h.cb
  unfold posOf
  split
  · exact .inr ⟨_, rfl, by omega, by omega, rfl, rfl⟩
  · split
    · exact .inr ⟨_, rfl, by omega, by omega, by rw [bne_iff_ne]; omega, rfl⟩
    · exact .inl ⟨rfl, rfl⟩

end Go.Proofs.Ytjhhnkfjidgooaa
