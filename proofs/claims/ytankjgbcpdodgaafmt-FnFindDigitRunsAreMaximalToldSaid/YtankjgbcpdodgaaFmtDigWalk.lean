/-
  What the walk of the law on runs of digits leans on: isDigit, its guard, two rows side by side. Conditions as each states.
-/
import Derived.Test.YtankjgbcpdodgaaFmtFindWalk
namespace Go.Proofs.YtankjgbcpdodgaaFmt
open Go.RowKit
set_option linter.unusedVariables false
set_option linter.unusedSimpArgs false

theorem dig_any (c : Int) (w : World) : Calls Tryf.prog 22 #[.int .u8 c] w fun e w' => e = .returned (.bool (dgB c)) ∧ w = w' := by
  rcases (show c < 48 ∨ (48 ≤ c ∧ c ≤ 57) ∨ (48 ≤ c ∧ 57 < c) by omega) with h | ⟨h, h'⟩ | ⟨h, h'⟩
  all_goals
    go_enter Tryf.func22, Tryf.ntmps22
    go_wp2_with fail
    go_ret
    exact ⟨ret_bool (by unfold dgB; simp; omega), rfl⟩
theorem dig_is {c : Int} {v : Bool} (hv : Hid (dgB c = v)) (w : World) : Calls Tryf.prog 22 #[.int .u8 c] w fun e w' => e = .returned (.bool v) ∧ w = w' := hv.out ▸ dig_any c w
theorem guardD_any (a : Option Addr) (n cap : Nat) (x y : Int) (hn : n ≤ 9223372036854775807) (w : World) : Calls Tryf.prog 21 #[.slice a n cap, .int .i64 x, .int .i64 y] w fun e w' => e = .returned (.bool (decide (n ≤ 1048576))) ∧ w = w' := by
  rcases (show 1048576 < n ∨ n ≤ 1048576 by omega) with h | h
  all_goals
    go_enter Tryf.func21, Tryf.ntmps21
    go_wp2
    go_ret
    exact ⟨ret_bool (by simp; omega), rfl⟩
theorem byteAt_row {zs : List Int} {i : Nat} (h : i < zs.length) : byteAt zs i = zs.getD i 0 := by rw [byteAt_lt h]
theorem dgAt_row {zs : List Int} {i : Nat} (h : i < zs.length) : dgAt zs i = dgB (zs.getD i 0) := by unfold dgAt; rw [decide_eq_true h, byteAt_row h, Bool.true_and]
theorem owns_other {w w8 : World} {B : Nat} {T : TypeId} {n cap g2 : Nat} {xs : List Value} {row : Option Nat} (h : w.ownsRow B T 1 (.slice (some ⟨g2, 0, none⟩) n cap) n xs) (hg : w.grownBy w8 row) (hne : some g2 ≠ row) : w8.ownsRow B T 1 (.slice (some ⟨g2, 0, none⟩) n cap) n xs :=
  owns_kept h (fun g o hb ho => blk_grown ho hg (by simp only [blkOf, Option.map_some, Option.some.injEq] at hb; subst hb; exact hne))
/-- What holds at the head of the law's scan: two rows side by side. -/
def DRel (w : World) (src : List Int) (R : List (Nat × Nat)) (v7 v8 v9 : Value) (wr : World) : Prop :=
  ∃ (i : Nat) (ls : List (Nat × Nat)) (g c g2 c2 : Nat), v7 = .slice (some ⟨g, 0, none⟩) ls.length c ∧ v8 = .slice (some ⟨g2, 0, none⟩) ls.length c2 ∧ v9 = .int .i64 i ∧
    wr.ownsRow w.heap.size 3 1 (.slice (some ⟨g, 0, none⟩) ls.length c) ls.length (natVals (ls.map (·.1))) ∧ wr.ownsRow w.heap.size 3 1 (.slice (some ⟨g2, 0, none⟩) ls.length c2) ls.length (natVals (ls.map (·.2))) ∧ g ≠ g2 ∧
    Below w.heap.size w wr ∧ ls ++ digRuns src i = R ∧ ls.length ≤ i ∧ i ≤ 9223372036854775807
theorem drel_start (w : World) (src : List Int) (off : Nat) (hoff : off ≤ 9223372036854775807) : DRel w src (digRuns src off) (.slice (some ⟨w.heap.size, 0, none⟩) 0 0) (.slice (some ⟨w.heap.size + 1, 0, none⟩) 0 0) (.int .i64 off) ((w.alloc (.cells #[] 3)).alloc (.cells #[] 3)) := by
  have h1 := World.ownsRow_lit (e := 3) (size := 1) (base := w.heap.size) w #[] 0 (Nat.le_refl _) (Nat.zero_le _) rfl
  have h2 := World.ownsRow_lit (e := 3) (size := 1) (base := w.heap.size) (w.alloc (.cells #[] 3)) #[] 0 (by simp) (Nat.zero_le _) rfl
  rw [show (w.alloc (.cells #[] 3)).heap.size = w.heap.size + 1 by simp] at h2
  exact ⟨off, [], w.heap.size, 0, w.heap.size + 1, 0, rfl, rfl, rfl, h1.alloc _, h2, by omega, ((Below.refl _ _).alloc (Nat.le_refl _) _).alloc (by simp) _, rfl, Nat.zero_le _, hoff⟩
theorem drel_no {w : World} {src : List Int} {R ls : List (Nat × Nat)} {wr : World} {i g c g2 c2 : Nat} (hi : i < src.length) (hd : dgAt src i = false) (h1 : wr.ownsRow w.heap.size 3 1 (.slice (some ⟨g, 0, none⟩) ls.length c) ls.length (natVals (ls.map (·.1)))) (h2 : wr.ownsRow w.heap.size 3 1 (.slice (some ⟨g2, 0, none⟩) ls.length c2) ls.length (natVals (ls.map (·.2)))) (hne : g ≠ g2)
    (hb : Below w.heap.size w wr) (hE : ls ++ digRuns src i = R) (hl : ls.length ≤ i) (hi2 : i + 1 ≤ 9223372036854775807) : DRel w src R (.slice (some ⟨g, 0, none⟩) ls.length c) (.slice (some ⟨g2, 0, none⟩) ls.length c2) (.int .i64 ((i : Int) + 1)) wr :=
  ⟨i + 1, ls, g, c, g2, c2, rfl, rfl, by go_num, h1, h2, hne, hb, by rw [← runs_no hi hd]; exact hE, by omega, by omega⟩
/-- Both rows have got the run. -/
theorem drel_yes {w : World} {src : List Int} {R ls : List (Nat × Nat)} {wr w1 w2 : World} {o o' : Obj} {i j g g2 ga ca gb cb : Nat} (hd : dgAt src i = true) (hj : runEnd src i = j) (hgl : g < wr.heap.size) (hg2l : g2 < wr.heap.size) (hgb : w.heap.size ≤ g) (hg2b : w.heap.size ≤ g2) (hne : g ≠ g2)
    (hb : Below w.heap.size w wr) (hbs : w.heap.size ≤ wr.heap.size)
    (ho1 : w1.ownsRow w.heap.size 3 1 (.slice (some ⟨ga, 0, none⟩) (ls.length + 1) ca) (ls.length + 1) (natVals (ls.map (·.1)) ++ [.int .i64 (i : Int)])) (hgr1 : (wr.alloc o).grownBy w1 (some g)) (hw1 : blkOf (some (⟨g, 0, none⟩ : Addr)) = some ga ∨ (wr.alloc o).heap.size ≤ ga)
    (ho2 : w2.ownsRow w.heap.size 3 1 (.slice (some ⟨gb, 0, none⟩) (ls.length + 1) cb) (ls.length + 1) (natVals (ls.map (·.2)) ++ [.int .i64 (j : Int)])) (hgr2 : (w1.alloc o').grownBy w2 (some g2)) (hw2 : blkOf (some (⟨g2, 0, none⟩ : Addr)) = some gb ∨ (w1.alloc o').heap.size ≤ gb)
    (hE : ls ++ digRuns src i = R) (hl : ls.length ≤ i) (hj2 : j ≤ 9223372036854775807) : DRel w src R (.slice (some ⟨ga, 0, none⟩) (ls.length + 1) ca) (.slice (some ⟨gb, 0, none⟩) (ls.length + 1) cb) (.int .i64 (j : Int)) w2 := by
  have hlt := runEnd_lt hd
  have hlen1 : (ls ++ [(i, j)]).length = ls.length + 1 := by simp
  have s1 := hgr1.size
  have s2 := hgr2.size
  have za : (wr.alloc o).heap.size = wr.heap.size + 1 := by simp
  have zb : (w1.alloc o').heap.size = w1.heap.size + 1 := by simp
  rw [za] at s1 hw1
  rw [zb] at s2 hw2
  simp only [blkOf, Option.map_some, Option.some.injEq] at hw1 hw2
  have hga : ga ≠ g2 := by rcases hw1 with h | h <;> omega
  have hgal : ga < w1.heap.size := (owns_lt ho1 ga rfl).2
  have hgb' : ga ≠ gb := by rcases hw2 with h | h <;> omega
  refine ⟨j, ls ++ [(i, j)], ga, ca, gb, cb, by rw [hlen1], by rw [hlen1], rfl, ?_, ?_, hgb', ?_, ?_, by rw [hlen1]; omega, hj2⟩
  · have h3 : natVals (ls.map (·.1)) ++ [.int .i64 (i : Int)] = natVals ((ls ++ [(i, j)]).map (·.1)) := by simp [natVals]
    rw [hlen1, ← h3]
    exact owns_other (ho1.alloc o') hgr2 (by simpa using hga)
  · have h3 : natVals (ls.map (·.2)) ++ [.int .i64 (j : Int)] = natVals ((ls ++ [(i, j)]).map (·.2)) := by simp [natVals]
    rw [hlen1, ← h3]
    exact ho2
  · refine hb.trans ?_
    refine ((Below.refl w.heap.size wr).alloc hbs o).trans ?_
    refine (one_below hgr1 hgb (by simp; omega)).trans ?_
    refine ((Below.refl w.heap.size w1).alloc (by omega) o').trans ?_
    exact one_below hgr2 hg2b (by simp; omega)
  · rw [← hE, runs_yes hd, hj, List.append_assoc]
    rfl
theorem dig_first {src : List Int} {off : Nat} {R : List (Nat × Nat)} (h : digRuns src off = R) : ∃ fb r, dgAt src off = fb ∧ ((0 < R.length ∧ (R.map (·.1)).getD 0 0 = r ∧ ((r : Int) == (off : Int)) = fb) ∨ (R.length = 0 ∧ fb = false)) := by
  rcases runs_first src off with ⟨r, R', h1, h2, h3⟩ | ⟨h1, h2⟩ | ⟨r, R', h1, h2, h3⟩
  · exact ⟨true, off, h3, .inl ⟨by rw [← h, h1]; simp, by rw [← h, h1]; simp [h2], by simp⟩⟩
  · exact ⟨false, 0, h2, .inr ⟨by rw [← h, h1]; rfl, rfl⟩⟩
  · exact ⟨false, r.1, h3, .inl ⟨by rw [← h, h1]; simp, by rw [← h, h1]; rfl, by rw [beq_eq_false_iff_ne]; omega⟩⟩
theorem runs_fst {R : List (Nat × Nat)} {k : Nat} (h : k < R.length) : (R.map (·.1)).getD k 0 = (R.getD k (0, 0)).1 := by
  rw [List.getD_eq_getElem?_getD, List.getD_eq_getElem?_getD, List.getElem?_map, List.getElem?_eq_getElem h]; rfl
theorem runs_snd {R : List (Nat × Nat)} {k : Nat} (h : k < R.length) : (R.map (·.2)).getD k 0 = (R.getD k (0, 0)).2 := by
  rw [List.getD_eq_getElem?_getD, List.getD_eq_getElem?_getD, List.getElem?_map, List.getElem?_eq_getElem h]; rfl

end Go.Proofs.YtankjgbcpdodgaaFmt
