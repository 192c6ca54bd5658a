/-
  The contracts of n005_60's character tests: each hands back a bool and leaves memory as it was (zzItemMatch makes a block of its own). No condition.
-/
import Derived.Test.YtejankffdmahnaaFmtMem
import Derived.BigGuardPart
import Derived.WalkLawsBesides
import Derived.Deep.CutRange
import Derived.Deep.DeepCutAuto
namespace Go.Proofs.YtejankffdmahnaaFmt
open Go.RowKit
set_option linter.unusedVariables false
set_option linter.unusedSimpArgs false

def upB (c : Int) : Bool := decide (65 ≤ c) && decide (c ≤ 90)
def loB (c : Int) : Bool := decide (97 ≤ c) && decide (c ≤ 122)
def diB (c : Int) : Bool := decide (48 ≤ c) && decide (c ≤ 57)
theorem up_any (c : Int) (w : World) : Calls Tryf.prog 29 #[.int .i64 c] w fun e w' => e = .returned (.bool (upB c)) ∧ w = w' := by
  by_cases h : 65 ≤ c
  all_goals
    go_enter Tryf.func29, Tryf.ntmps29
    go_wp2
    go_ret
    exact ⟨ret_bool (by first | (simp [upB, h]; done) | (simp [upB]; omega)), rfl⟩
theorem lo_any (c : Int) (w : World) : Calls Tryf.prog 30 #[.int .i64 c] w fun e w' => e = .returned (.bool (loB c)) ∧ w = w' := by
  by_cases h : 97 ≤ c
  all_goals
    go_enter Tryf.func30, Tryf.ntmps30
    go_wp2
    go_ret
    exact ⟨ret_bool (by first | (simp [loB, h]; done) | (simp [loB]; omega)), rfl⟩
theorem di_any (c : Int) (w : World) : Calls Tryf.prog 31 #[.int .i64 c] w fun e w' => e = .returned (.bool (diB c)) ∧ w = w' := by
  by_cases h : 48 ≤ c
  all_goals
    go_enter Tryf.func31, Tryf.ntmps31
    go_wp2
    go_ret
    exact ⟨ret_bool (by first | (simp [diB, h]; done) | (simp [diB]; omega)), rfl⟩

/-- Some bool comes back; nothing is written. -/
def SomeB (w : World) (e : Ending) (w' : World) : Prop := ∃ v : Bool, e = .returned (.bool v) ∧ w = w'
/-- Some bool comes back; what was there stays. -/
def SomeBB (w : World) (e : Ending) (w' : World) : Prop := ∃ v : Bool, e = .returned (.bool v) ∧ Below w.heap.size w w'
set_option maxHeartbeats 8000000 in
set_option maxRecDepth 100000 in
theorem esc_any (x ch : Int) (w : World) : Calls Tryf.prog 20 #[.int .i64 x, .int .i64 ch] w (SomeB w) := by
  go_enter Tryf.func20, Tryf.ntmps20
  go_upto_if 9 with (first | (go_at_call 29; refine (up_any _ _).mono ?_; rintro e w' ⟨rfl, rfl⟩) | fail)
  go_cut [5] (fun v wc => ∃ l : Int, v = .int .i64 l ∧ w = wc)
  case first =>
    go_wp2_with fail
    all_goals
      go_meet
      case rel => exact ⟨_, rfl, rfl⟩
  obtain ⟨l, rfl, rfl⟩ := hcut
  go_upto_region 5 with (fail)
  go_wp2_with (first | (go_at_call 29; refine (up_any _ _).mono ?_; rintro e w' ⟨rfl, rfl⟩) | (go_at_call 30; refine (lo_any _ _).mono ?_; rintro e w' ⟨rfl, rfl⟩) | (go_at_call 31; refine (di_any _ _).mono ?_; rintro e w' ⟨rfl, rfl⟩))
  all_goals first | (go_ret; exact ⟨_, rfl, rfl⟩) | skip
set_option maxHeartbeats 1000000 in
theorem item_any (k lo hi ch : Int) (w : World) : Calls Tryf.prog 13 #[.agg #[.int .i64 k, .int .i64 lo, .int .i64 hi], .int .i64 ch] w (SomeBB w) := by
  go_enter Tryf.func13, Tryf.ntmps13
  go_wp2_with (go_at_call 20; refine (esc_any _ _ _).mono ?_; rintro e w' ⟨v, rfl, rfl⟩)
  all_goals (go_ret; exact ⟨_, rfl, (Below.refl _ _).alloc (Nat.le_refl _) _⟩)
end Go.Proofs.YtejankffdmahnaaFmt
