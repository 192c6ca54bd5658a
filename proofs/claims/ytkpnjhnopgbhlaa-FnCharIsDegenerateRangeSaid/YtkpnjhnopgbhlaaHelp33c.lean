/-
  The contracts of Matches of one character and of a range of two characters, and of the exported helpers over them. No condition beyond that the class lies in memory.
-/
import Derived.Test.YtkpnjhnopgbhlaaMem
import Derived.BigGuardPart
namespace Go.Proofs.Ytkpnjhnopgbhlaa
open Go.RowKit
set_option linter.unusedVariables false
set_option linter.unusedSimpArgs false

@[go_sem] theorem as_chr (v : Value) (w : World) : (Instr.typeAssert (.iface 30 v) 36 30 true).run Try.prog w = .ok (.tuple #[v, .bool true]) w := by kernel_rfl

theorem chrM_any {b : Nat} {c : Int} (ch : Int) {w : World} (hc : w.cell? ⟨b, 0, none⟩ = some (.int .i64 c)) :
    Calls Try.prog 12 #[.pointer (some ⟨b, 0, none⟩), .int .i64 ch] w fun e w' => e = .returned (.bool (c == ch)) ∧ w = w' := by
  go_enter Try.func12, Try.ntmps12
  go_wp2
  go_ret
  exact ⟨rfl, rfl⟩

theorem rngM_cc {m p q : Nat} {b e : Int} (ch : Int) {w : World} (h0 : w.cell? ⟨m, 0, none⟩ = some (.iface 30 (.pointer (some ⟨p, 0, none⟩)))) (h1 : w.cell? ⟨m, 1, none⟩ = some (.iface 30 (.pointer (some ⟨q, 0, none⟩))))
    (hb : w.cell? ⟨p, 0, none⟩ = some (.int .i64 b)) (he : w.cell? ⟨q, 0, none⟩ = some (.int .i64 e)) :
    Calls Try.prog 13 #[.pointer (some ⟨m, 0, none⟩), .int .i64 ch] w fun e' w' => e' = .returned (.bool (decide (b ≤ ch) && decide (ch ≤ e))) ∧ w = w' := by
  by_cases q1 : b ≤ ch
  all_goals
    go_enter Try.func13, Try.ntmps13
    go_wp2
    go_ret
    exact ⟨ret_bool (by first | (simp [q1]; done) | (simp; omega)), rfl⟩

theorem zzChar_any (c ch : Int) (v : Bool) (hv : Hid ((c == ch) = v)) (w : World) : Calls Try.prog 5 #[.int .i64 c, .int .i64 ch] w fun e w' => e = .returned (.bool v) ∧ Grown w w' := by
  go_enter Try.func5, Try.ntmps5
  go_wp2_with fail
  refine (chrM_any ch (blk_cell (blk_new w (.cells #[.int .i64 c] 32)) 0 _ rfl)).mono ?_
  rintro e w' ⟨rfl, rfl⟩
  go_wp2_with fail
  go_ret
  exact ⟨ret_bool hv.out, by repeat (first | exact Grown.refl _ | apply Grown.drew | apply Grown.alloc)⟩

theorem zzRange_any (lo hi ch : Int) (v : Bool) (hv : Hid ((decide (lo ≤ ch) && decide (ch ≤ hi)) = v)) (w : World) : Calls Try.prog 6 #[.int .i64 lo, .int .i64 hi, .int .i64 ch] w fun e w' => e = .returned (.bool v) ∧ Grown w w' := by
  have s1 : (w.alloc (.cells #[.int .i64 lo] 32)).heap.size = w.heap.size + 1 := by simp
  have s2 : ((w.alloc (.cells #[.int .i64 lo] 32)).alloc (.cells #[.int .i64 hi] 32)).heap.size = w.heap.size + 1 + 1 := by simp
  have b1 := blk_new w (.cells #[.int .i64 lo] 32)
  have b2 := blk_new (w.alloc (.cells #[.int .i64 lo] 32)) (.cells #[.int .i64 hi] 32)
  have b3 := blk_new ((w.alloc (.cells #[.int .i64 lo] 32)).alloc (.cells #[.int .i64 hi] 32)) (.cells #[.iface 30 (.pointer (some ⟨w.heap.size, 0, none⟩)), .iface 30 (.pointer (some ⟨w.heap.size + 1, 0, none⟩))] 38)
  rw [s1] at b2
  rw [s2] at b3
  have B1 := Lib.hid (blk_alloc (blk_alloc b1 (.cells #[.int .i64 hi] 32)) (.cells #[.iface 30 (.pointer (some ⟨w.heap.size, 0, none⟩)), .iface 30 (.pointer (some ⟨w.heap.size + 1, 0, none⟩))] 38))
  have B2 := Lib.hid (blk_alloc b2 (.cells #[.iface 30 (.pointer (some ⟨w.heap.size, 0, none⟩)), .iface 30 (.pointer (some ⟨w.heap.size + 1, 0, none⟩))] 38))
  have B3 := Lib.hid b3
  clear b1 b2 b3 s1 s2
  go_enter Try.func6, Try.ntmps6
  go_wp2_with fail
  refine (rngM_cc (b := lo) (e := hi) ch (blk_cell B3.out 0 _ rfl) (blk_cell B3.out 1 _ rfl) (blk_cell B1.out 0 _ rfl) (blk_cell B2.out 0 _ rfl)).mono ?_
  rintro e w' ⟨rfl, rfl⟩
  go_wp2_with fail
  go_ret
  exact ⟨ret_bool hv.out, by repeat (first | exact Grown.refl _ | apply Grown.drew | apply Grown.alloc)⟩
theorem grown_trans {a b c : World} (h : Grown a b) (k : Grown b c) : Grown a c :=
  ⟨World.keptBut_trans h.1 k.1, fun x => (k.2.1 x).trans (h.2.1 x), Nat.le_trans h.2.2 k.2.2⟩

end Go.Proofs.Ytkpnjhnopgbhlaa
