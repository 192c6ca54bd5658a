/-
  The contract of (*singleClass).Matches for every class number and every int. Its condition: the class's cell can be read.
-/
import Derived.Test.YtcfhhcjcnafcjaaFmtSingleLow
import Derived.Test.YtcfhhcjcnafcjaaFmtSingleUp
namespace Go.Proofs.YtcfhhcjcnafcjaaFmt
open Go.RowKit
set_option linter.unusedVariables false
set_option linter.unusedSimpArgs false

set_option maxRecDepth 100000 in
set_option maxHeartbeats 1000000 in
theorem single_other (cl ch : Int) (a : Addr) (w : World) (hc : w.cell? a = some (.int .i64 cl)) (h0 : cl ≠ 65 ∧ cl ≠ 67 ∧ cl ≠ 68 ∧ cl ≠ 76 ∧ cl ≠ 80 ∧ cl ≠ 83 ∧ cl ≠ 85 ∧ cl ≠ 87 ∧ cl ≠ 88 ∧ cl ≠ 90 ∧ cl ≠ 97 ∧ cl ≠ 99 ∧ cl ≠ 100 ∧ cl ≠ 108 ∧ cl ≠ 112 ∧ cl ≠ 115 ∧ cl ≠ 117 ∧ cl ≠ 119 ∧ cl ≠ 120 ∧ cl ≠ 122) :
    Calls Tryf.prog 58 #[.pointer (some a), .int .i64 ch] w fun e w' => e = .returned (.bool (decide (ch = cl))) ∧ w = w' := by
  obtain ⟨n65, n67, n68, n76, n80, n83, n85, n87, n88, n90, n97, n99, n100, n108, n112, n115, n117, n119, n120, n122⟩ := h0
  by_cases he : ch = cl
  · subst he
    go_enter Tryf.func58, Tryf.ntmps58
    go_wp2
    go_ret
    exact ⟨sg_ret (by simp), rfl⟩
  · have he' : (ch == cl) = false := by simpa using he
    go_enter Tryf.func58, Tryf.ntmps58
    go_wp2
    go_ret
    exact ⟨sg_ret (by simp [he]), rfl⟩

theorem single_any (cl ch : Int) (a : Addr) (w : World) (hc : w.cell? a = some (.int .i64 cl)) :
    Calls Tryf.prog 58 #[.pointer (some a), .int .i64 ch] w fun e w' => e = .returned (.bool (singB cl ch)) ∧ w = w' := by
  by_cases e97 : cl = 97
  · subst e97; exact single_97 ch a w hc
  by_cases e65 : cl = 65
  · subst e65; exact single_65 ch a w hc
  by_cases e99 : cl = 99
  · subst e99; exact single_99 ch a w hc
  by_cases e67 : cl = 67
  · subst e67; exact single_67 ch a w hc
  by_cases e100 : cl = 100
  · subst e100; exact single_100 ch a w hc
  by_cases e68 : cl = 68
  · subst e68; exact single_68 ch a w hc
  by_cases e108 : cl = 108
  · subst e108; exact single_108 ch a w hc
  by_cases e76 : cl = 76
  · subst e76; exact single_76 ch a w hc
  by_cases e112 : cl = 112
  · subst e112; exact single_112 ch a w hc
  by_cases e80 : cl = 80
  · subst e80; exact single_80 ch a w hc
  by_cases e115 : cl = 115
  · subst e115; exact single_115 ch a w hc
  by_cases e83 : cl = 83
  · subst e83; exact single_83 ch a w hc
  by_cases e117 : cl = 117
  · subst e117; exact single_117 ch a w hc
  by_cases e85 : cl = 85
  · subst e85; exact single_85 ch a w hc
  by_cases e119 : cl = 119
  · subst e119; exact single_119 ch a w hc
  by_cases e87 : cl = 87
  · subst e87; exact single_87 ch a w hc
  by_cases e120 : cl = 120
  · subst e120; exact single_120 ch a w hc
  by_cases e88 : cl = 88
  · subst e88; exact single_88 ch a w hc
  by_cases e122 : cl = 122
  · subst e122; exact single_122 ch a w hc
  by_cases e90 : cl = 90
  · subst e90; exact single_90 ch a w hc
  have hs : singB cl ch = decide (ch = cl) := by
    have h1 : isLow cl = false := by simp only [isLow, decide_eq_false_iff_not]; omega
    have h2 : isLow (cl + 32) = false := by simp only [isLow, decide_eq_false_iff_not]; omega
    simp [singB, h1, h2]
  rw [hs]
  exact single_other cl ch a w hc ⟨e65, e67, e68, e76, e80, e83, e85, e87, e88, e90, e97, e99, e100, e108, e112, e115, e117, e119, e120, e122⟩

end Go.Proofs.YtcfhhcjcnafcjaaFmt