/-
  The contract of (*singleClass).Matches at each lower-case class letter, for every int. Its condition: the class's cell can be read.
-/
import Derived.Test.YtcfhhcjcnafcjaaFmtSingleDefs
namespace Go.Proofs.YtcfhhcjcnafcjaaFmt
open Go.RowKit
set_option linter.unusedVariables false
set_option linter.unusedSimpArgs false

set_option maxRecDepth 100000 in
set_option maxHeartbeats 1000000 in
theorem single_97 (ch : Int) (a : Addr) (w : World) (hc : w.cell? a = some (.int .i64 97)) :
    Calls Tryf.prog 58 #[.pointer (some a), .int .i64 ch] w fun e w' => e = .returned (.bool (decide (cls97 ch))) ∧ w = w' := by
  rcases (show (ch < 65) ∨ (65 ≤ ch ∧ ch ≤ 90) ∨ (90 < ch ∧ ch < 97) ∨ (97 ≤ ch ∧ ch ≤ 122) ∨ 122 < ch by omega) with h | ⟨h, h'⟩ | ⟨h, h'⟩ | ⟨h, h'⟩ | h
  · skip
    have p0 : decide ((65 : Int) ≤ ch) = false := by simp; omega
    have q0 : decide (ch ≤ (90 : Int)) = true := by simp; omega
    have p1 : decide ((97 : Int) ≤ ch) = false := by simp; omega
    have q1 : decide (ch ≤ (122 : Int)) = true := by simp; omega
    go_enter Tryf.func58, Tryf.ntmps58
    go_wp2
    go_ret
    exact ⟨sg_ret (sg_lo (by unfold cls97; omega) (by first | rfl | (simp; done) | (simp; omega))), rfl⟩
  · skip
    have p0 : decide ((65 : Int) ≤ ch) = true := by simp; omega
    have q0 : decide (ch ≤ (90 : Int)) = true := by simp; omega
    have p1 : decide ((97 : Int) ≤ ch) = false := by simp; omega
    have q1 : decide (ch ≤ (122 : Int)) = true := by simp; omega
    go_enter Tryf.func58, Tryf.ntmps58
    go_wp2
    go_ret
    exact ⟨sg_ret (sg_hi (by unfold cls97; omega) (by first | rfl | (simp; done) | (simp; omega))), rfl⟩
  · skip
    have p0 : decide ((65 : Int) ≤ ch) = true := by simp; omega
    have q0 : decide (ch ≤ (90 : Int)) = false := by simp; omega
    have p1 : decide ((97 : Int) ≤ ch) = false := by simp; omega
    have q1 : decide (ch ≤ (122 : Int)) = true := by simp; omega
    go_enter Tryf.func58, Tryf.ntmps58
    go_wp2
    go_ret
    exact ⟨sg_ret (sg_lo (by unfold cls97; omega) (by first | rfl | (simp; done) | (simp; omega))), rfl⟩
  · skip
    have p0 : decide ((65 : Int) ≤ ch) = true := by simp; omega
    have q0 : decide (ch ≤ (90 : Int)) = false := by simp; omega
    have p1 : decide ((97 : Int) ≤ ch) = true := by simp; omega
    have q1 : decide (ch ≤ (122 : Int)) = true := by simp; omega
    go_enter Tryf.func58, Tryf.ntmps58
    go_wp2
    go_ret
    exact ⟨sg_ret (sg_hi (by unfold cls97; omega) (by first | rfl | (simp; done) | (simp; omega))), rfl⟩
  · skip
    have p0 : decide ((65 : Int) ≤ ch) = true := by simp; omega
    have q0 : decide (ch ≤ (90 : Int)) = false := by simp; omega
    have p1 : decide ((97 : Int) ≤ ch) = true := by simp; omega
    have q1 : decide (ch ≤ (122 : Int)) = false := by simp; omega
    go_enter Tryf.func58, Tryf.ntmps58
    go_wp2
    go_ret
    exact ⟨sg_ret (sg_lo (by unfold cls97; omega) (by first | rfl | (simp; done) | (simp; omega))), rfl⟩

set_option maxRecDepth 100000 in
set_option maxHeartbeats 1000000 in
theorem single_99 (ch : Int) (a : Addr) (w : World) (hc : w.cell? a = some (.int .i64 99)) :
    Calls Tryf.prog 58 #[.pointer (some a), .int .i64 ch] w fun e w' => e = .returned (.bool (decide (cls99 ch))) ∧ w = w' := by
  rcases (show (ch < 0) ∨ (0 ≤ ch ∧ ch ≤ 31) ∨ (31 < ch ∧ ch < 127) ∨ ch = 127 ∨ 127 < ch by omega) with h | ⟨h, h'⟩ | ⟨h, h'⟩ | rfl | h
  · skip
    have p0 : decide ((0 : Int) ≤ ch) = false := by simp; omega
    have q0 : decide (ch ≤ (31 : Int)) = true := by simp; omega
    have e1 : (ch == 127) = false := by simp; omega
    go_enter Tryf.func58, Tryf.ntmps58
    go_wp2
    go_ret
    exact ⟨sg_ret (sg_lo (by unfold cls99; omega) (by first | rfl | (simp; done) | (simp; omega))), rfl⟩
  · skip
    have p0 : decide ((0 : Int) ≤ ch) = true := by simp; omega
    have q0 : decide (ch ≤ (31 : Int)) = true := by simp; omega
    have e1 : (ch == 127) = false := by simp; omega
    go_enter Tryf.func58, Tryf.ntmps58
    go_wp2
    go_ret
    exact ⟨sg_ret (sg_hi (by unfold cls99; omega) (by first | rfl | (simp; done) | (simp; omega))), rfl⟩
  · skip
    have p0 : decide ((0 : Int) ≤ ch) = true := by simp; omega
    have q0 : decide (ch ≤ (31 : Int)) = false := by simp; omega
    have e1 : (ch == 127) = false := by simp; omega
    go_enter Tryf.func58, Tryf.ntmps58
    go_wp2
    go_ret
    exact ⟨sg_ret (sg_lo (by unfold cls99; omega) (by first | rfl | (simp; done) | (simp; omega))), rfl⟩
  · skip
    go_enter Tryf.func58, Tryf.ntmps58
    go_wp2
    go_ret
    exact ⟨sg_ret (sg_hi (by unfold cls99; omega) (by first | rfl | (simp; done) | (simp; omega))), rfl⟩
  · skip
    have p0 : decide ((0 : Int) ≤ ch) = true := by simp; omega
    have q0 : decide (ch ≤ (31 : Int)) = false := by simp; omega
    have e1 : (ch == 127) = false := by simp; omega
    go_enter Tryf.func58, Tryf.ntmps58
    go_wp2
    go_ret
    exact ⟨sg_ret (sg_lo (by unfold cls99; omega) (by first | rfl | (simp; done) | (simp; omega))), rfl⟩

set_option maxRecDepth 100000 in
set_option maxHeartbeats 1000000 in
theorem single_100 (ch : Int) (a : Addr) (w : World) (hc : w.cell? a = some (.int .i64 100)) :
    Calls Tryf.prog 58 #[.pointer (some a), .int .i64 ch] w fun e w' => e = .returned (.bool (decide (cls100 ch))) ∧ w = w' := by
  rcases (show (ch < 48) ∨ (48 ≤ ch ∧ ch ≤ 57) ∨ 57 < ch by omega) with h | ⟨h, h'⟩ | h
  · skip
    have p0 : decide ((48 : Int) ≤ ch) = false := by simp; omega
    have q0 : decide (ch ≤ (57 : Int)) = true := by simp; omega
    go_enter Tryf.func58, Tryf.ntmps58
    go_wp2
    go_ret
    exact ⟨sg_ret (sg_lo (by unfold cls100; omega) (by first | rfl | (simp; done) | (simp; omega))), rfl⟩
  · skip
    have p0 : decide ((48 : Int) ≤ ch) = true := by simp; omega
    have q0 : decide (ch ≤ (57 : Int)) = true := by simp; omega
    go_enter Tryf.func58, Tryf.ntmps58
    go_wp2
    go_ret
    exact ⟨sg_ret (sg_hi (by unfold cls100; omega) (by first | rfl | (simp; done) | (simp; omega))), rfl⟩
  · skip
    have p0 : decide ((48 : Int) ≤ ch) = true := by simp; omega
    have q0 : decide (ch ≤ (57 : Int)) = false := by simp; omega
    go_enter Tryf.func58, Tryf.ntmps58
    go_wp2
    go_ret
    exact ⟨sg_ret (sg_lo (by unfold cls100; omega) (by first | rfl | (simp; done) | (simp; omega))), rfl⟩

set_option maxRecDepth 100000 in
set_option maxHeartbeats 1000000 in
theorem single_108 (ch : Int) (a : Addr) (w : World) (hc : w.cell? a = some (.int .i64 108)) :
    Calls Tryf.prog 58 #[.pointer (some a), .int .i64 ch] w fun e w' => e = .returned (.bool (decide (cls108 ch))) ∧ w = w' := by
  rcases (show (ch < 97) ∨ (97 ≤ ch ∧ ch ≤ 122) ∨ 122 < ch by omega) with h | ⟨h, h'⟩ | h
  · skip
    have p0 : decide ((97 : Int) ≤ ch) = false := by simp; omega
    have q0 : decide (ch ≤ (122 : Int)) = true := by simp; omega
    go_enter Tryf.func58, Tryf.ntmps58
    go_wp2
    go_ret
    exact ⟨sg_ret (sg_lo (by unfold cls108; omega) (by first | rfl | (simp; done) | (simp; omega))), rfl⟩
  · skip
    have p0 : decide ((97 : Int) ≤ ch) = true := by simp; omega
    have q0 : decide (ch ≤ (122 : Int)) = true := by simp; omega
    go_enter Tryf.func58, Tryf.ntmps58
    go_wp2
    go_ret
    exact ⟨sg_ret (sg_hi (by unfold cls108; omega) (by first | rfl | (simp; done) | (simp; omega))), rfl⟩
  · skip
    have p0 : decide ((97 : Int) ≤ ch) = true := by simp; omega
    have q0 : decide (ch ≤ (122 : Int)) = false := by simp; omega
    go_enter Tryf.func58, Tryf.ntmps58
    go_wp2
    go_ret
    exact ⟨sg_ret (sg_lo (by unfold cls108; omega) (by first | rfl | (simp; done) | (simp; omega))), rfl⟩

set_option maxRecDepth 100000 in
set_option maxHeartbeats 1000000 in
theorem single_112 (ch : Int) (a : Addr) (w : World) (hc : w.cell? a = some (.int .i64 112)) :
    Calls Tryf.prog 58 #[.pointer (some a), .int .i64 ch] w fun e w' => e = .returned (.bool (decide (cls112 ch))) ∧ w = w' := by
  rcases (show (ch < 33) ∨ (33 ≤ ch ∧ ch ≤ 47) ∨ (47 < ch ∧ ch < 58) ∨ (58 ≤ ch ∧ ch ≤ 64) ∨ (64 < ch ∧ ch < 91) ∨ (91 ≤ ch ∧ ch ≤ 96) ∨ (96 < ch ∧ ch < 123) ∨ (123 ≤ ch ∧ ch ≤ 126) ∨ 126 < ch by omega) with h | ⟨h, h'⟩ | ⟨h, h'⟩ | ⟨h, h'⟩ | ⟨h, h'⟩ | ⟨h, h'⟩ | ⟨h, h'⟩ | ⟨h, h'⟩ | h
  · skip
    have p0 : decide ((33 : Int) ≤ ch) = false := by simp; omega
    have q0 : decide (ch ≤ (47 : Int)) = true := by simp; omega
    have p1 : decide ((58 : Int) ≤ ch) = false := by simp; omega
    have q1 : decide (ch ≤ (64 : Int)) = true := by simp; omega
    have p2 : decide ((91 : Int) ≤ ch) = false := by simp; omega
    have q2 : decide (ch ≤ (96 : Int)) = true := by simp; omega
    have p3 : decide ((123 : Int) ≤ ch) = false := by simp; omega
    have q3 : decide (ch ≤ (126 : Int)) = true := by simp; omega
    go_enter Tryf.func58, Tryf.ntmps58
    go_wp2
    go_ret
    exact ⟨sg_ret (sg_lo (by unfold cls112; omega) (by first | rfl | (simp; done) | (simp; omega))), rfl⟩
  · skip
    have p0 : decide ((33 : Int) ≤ ch) = true := by simp; omega
    have q0 : decide (ch ≤ (47 : Int)) = true := by simp; omega
    have p1 : decide ((58 : Int) ≤ ch) = false := by simp; omega
    have q1 : decide (ch ≤ (64 : Int)) = true := by simp; omega
    have p2 : decide ((91 : Int) ≤ ch) = false := by simp; omega
    have q2 : decide (ch ≤ (96 : Int)) = true := by simp; omega
    have p3 : decide ((123 : Int) ≤ ch) = false := by simp; omega
    have q3 : decide (ch ≤ (126 : Int)) = true := by simp; omega
    go_enter Tryf.func58, Tryf.ntmps58
    go_wp2
    go_ret
    exact ⟨sg_ret (sg_hi (by unfold cls112; omega) (by first | rfl | (simp; done) | (simp; omega))), rfl⟩
  · skip
    have p0 : decide ((33 : Int) ≤ ch) = true := by simp; omega
    have q0 : decide (ch ≤ (47 : Int)) = false := by simp; omega
    have p1 : decide ((58 : Int) ≤ ch) = false := by simp; omega
    have q1 : decide (ch ≤ (64 : Int)) = true := by simp; omega
    have p2 : decide ((91 : Int) ≤ ch) = false := by simp; omega
    have q2 : decide (ch ≤ (96 : Int)) = true := by simp; omega
    have p3 : decide ((123 : Int) ≤ ch) = false := by simp; omega
    have q3 : decide (ch ≤ (126 : Int)) = true := by simp; omega
    go_enter Tryf.func58, Tryf.ntmps58
    go_wp2
    go_ret
    exact ⟨sg_ret (sg_lo (by unfold cls112; omega) (by first | rfl | (simp; done) | (simp; omega))), rfl⟩
  · skip
    have p0 : decide ((33 : Int) ≤ ch) = true := by simp; omega
    have q0 : decide (ch ≤ (47 : Int)) = false := by simp; omega
    have p1 : decide ((58 : Int) ≤ ch) = true := by simp; omega
    have q1 : decide (ch ≤ (64 : Int)) = true := by simp; omega
    have p2 : decide ((91 : Int) ≤ ch) = false := by simp; omega
    have q2 : decide (ch ≤ (96 : Int)) = true := by simp; omega
    have p3 : decide ((123 : Int) ≤ ch) = false := by simp; omega
    have q3 : decide (ch ≤ (126 : Int)) = true := by simp; omega
    go_enter Tryf.func58, Tryf.ntmps58
    go_wp2
    go_ret
    exact ⟨sg_ret (sg_hi (by unfold cls112; omega) (by first | rfl | (simp; done) | (simp; omega))), rfl⟩
  · skip
    have p0 : decide ((33 : Int) ≤ ch) = true := by simp; omega
    have q0 : decide (ch ≤ (47 : Int)) = false := by simp; omega
    have p1 : decide ((58 : Int) ≤ ch) = true := by simp; omega
    have q1 : decide (ch ≤ (64 : Int)) = false := by simp; omega
    have p2 : decide ((91 : Int) ≤ ch) = false := by simp; omega
    have q2 : decide (ch ≤ (96 : Int)) = true := by simp; omega
    have p3 : decide ((123 : Int) ≤ ch) = false := by simp; omega
    have q3 : decide (ch ≤ (126 : Int)) = true := by simp; omega
    go_enter Tryf.func58, Tryf.ntmps58
    go_wp2
    go_ret
    exact ⟨sg_ret (sg_lo (by unfold cls112; omega) (by first | rfl | (simp; done) | (simp; omega))), rfl⟩
  · skip
    have p0 : decide ((33 : Int) ≤ ch) = true := by simp; omega
    have q0 : decide (ch ≤ (47 : Int)) = false := by simp; omega
    have p1 : decide ((58 : Int) ≤ ch) = true := by simp; omega
    have q1 : decide (ch ≤ (64 : Int)) = false := by simp; omega
    have p2 : decide ((91 : Int) ≤ ch) = true := by simp; omega
    have q2 : decide (ch ≤ (96 : Int)) = true := by simp; omega
    have p3 : decide ((123 : Int) ≤ ch) = false := by simp; omega
    have q3 : decide (ch ≤ (126 : Int)) = true := by simp; omega
    go_enter Tryf.func58, Tryf.ntmps58
    go_wp2
    go_ret
    exact ⟨sg_ret (sg_hi (by unfold cls112; omega) (by first | rfl | (simp; done) | (simp; omega))), rfl⟩
  · skip
    have p0 : decide ((33 : Int) ≤ ch) = true := by simp; omega
    have q0 : decide (ch ≤ (47 : Int)) = false := by simp; omega
    have p1 : decide ((58 : Int) ≤ ch) = true := by simp; omega
    have q1 : decide (ch ≤ (64 : Int)) = false := by simp; omega
    have p2 : decide ((91 : Int) ≤ ch) = true := by simp; omega
    have q2 : decide (ch ≤ (96 : Int)) = false := by simp; omega
    have p3 : decide ((123 : Int) ≤ ch) = false := by simp; omega
    have q3 : decide (ch ≤ (126 : Int)) = true := by simp; omega
    go_enter Tryf.func58, Tryf.ntmps58
    go_wp2
    go_ret
    exact ⟨sg_ret (sg_lo (by unfold cls112; omega) (by first | rfl | (simp; done) | (simp; omega))), rfl⟩
  · skip
    have p0 : decide ((33 : Int) ≤ ch) = true := by simp; omega
    have q0 : decide (ch ≤ (47 : Int)) = false := by simp; omega
    have p1 : decide ((58 : Int) ≤ ch) = true := by simp; omega
    have q1 : decide (ch ≤ (64 : Int)) = false := by simp; omega
    have p2 : decide ((91 : Int) ≤ ch) = true := by simp; omega
    have q2 : decide (ch ≤ (96 : Int)) = false := by simp; omega
    have p3 : decide ((123 : Int) ≤ ch) = true := by simp; omega
    have q3 : decide (ch ≤ (126 : Int)) = true := by simp; omega
    go_enter Tryf.func58, Tryf.ntmps58
    go_wp2
    go_ret
    exact ⟨sg_ret (sg_hi (by unfold cls112; omega) (by first | rfl | (simp; done) | (simp; omega))), rfl⟩
  · skip
    have p0 : decide ((33 : Int) ≤ ch) = true := by simp; omega
    have q0 : decide (ch ≤ (47 : Int)) = false := by simp; omega
    have p1 : decide ((58 : Int) ≤ ch) = true := by simp; omega
    have q1 : decide (ch ≤ (64 : Int)) = false := by simp; omega
    have p2 : decide ((91 : Int) ≤ ch) = true := by simp; omega
    have q2 : decide (ch ≤ (96 : Int)) = false := by simp; omega
    have p3 : decide ((123 : Int) ≤ ch) = true := by simp; omega
    have q3 : decide (ch ≤ (126 : Int)) = false := by simp; omega
    go_enter Tryf.func58, Tryf.ntmps58
    go_wp2
    go_ret
    exact ⟨sg_ret (sg_lo (by unfold cls112; omega) (by first | rfl | (simp; done) | (simp; omega))), rfl⟩

set_option maxRecDepth 100000 in
set_option maxHeartbeats 1000000 in
theorem single_115 (ch : Int) (a : Addr) (w : World) (hc : w.cell? a = some (.int .i64 115)) :
    Calls Tryf.prog 58 #[.pointer (some a), .int .i64 ch] w fun e w' => e = .returned (.bool (decide (cls115 ch))) ∧ w = w' := by
  rcases (show (ch < 9) ∨ ch = 9 ∨ ch = 10 ∨ ch = 11 ∨ ch = 12 ∨ ch = 13 ∨ (13 < ch ∧ ch < 32) ∨ ch = 32 ∨ 32 < ch by omega) with h | rfl | rfl | rfl | rfl | rfl | ⟨h, h'⟩ | rfl | h
  · skip
    have e0 : (ch == 9) = false := by simp; omega
    have e1 : (ch == 10) = false := by simp; omega
    have e2 : (ch == 11) = false := by simp; omega
    have e3 : (ch == 12) = false := by simp; omega
    have e4 : (ch == 13) = false := by simp; omega
    have e5 : (ch == 32) = false := by simp; omega
    go_enter Tryf.func58, Tryf.ntmps58
    go_wp2
    go_ret
    exact ⟨sg_ret (sg_lo (by unfold cls115; omega) (by first | rfl | (simp; done) | (simp; omega))), rfl⟩
  · skip
    go_enter Tryf.func58, Tryf.ntmps58
    go_wp2
    go_ret
    exact ⟨sg_ret (sg_hi (by unfold cls115; omega) (by first | rfl | (simp; done) | (simp; omega))), rfl⟩
  · skip
    go_enter Tryf.func58, Tryf.ntmps58
    go_wp2
    go_ret
    exact ⟨sg_ret (sg_hi (by unfold cls115; omega) (by first | rfl | (simp; done) | (simp; omega))), rfl⟩
  · skip
    go_enter Tryf.func58, Tryf.ntmps58
    go_wp2
    go_ret
    exact ⟨sg_ret (sg_hi (by unfold cls115; omega) (by first | rfl | (simp; done) | (simp; omega))), rfl⟩
  · skip
    go_enter Tryf.func58, Tryf.ntmps58
    go_wp2
    go_ret
    exact ⟨sg_ret (sg_hi (by unfold cls115; omega) (by first | rfl | (simp; done) | (simp; omega))), rfl⟩
  · skip
    go_enter Tryf.func58, Tryf.ntmps58
    go_wp2
    go_ret
    exact ⟨sg_ret (sg_hi (by unfold cls115; omega) (by first | rfl | (simp; done) | (simp; omega))), rfl⟩
  · skip
    have e0 : (ch == 9) = false := by simp; omega
    have e1 : (ch == 10) = false := by simp; omega
    have e2 : (ch == 11) = false := by simp; omega
    have e3 : (ch == 12) = false := by simp; omega
    have e4 : (ch == 13) = false := by simp; omega
    have e5 : (ch == 32) = false := by simp; omega
    go_enter Tryf.func58, Tryf.ntmps58
    go_wp2
    go_ret
    exact ⟨sg_ret (sg_lo (by unfold cls115; omega) (by first | rfl | (simp; done) | (simp; omega))), rfl⟩
  · skip
    go_enter Tryf.func58, Tryf.ntmps58
    go_wp2
    go_ret
    exact ⟨sg_ret (sg_hi (by unfold cls115; omega) (by first | rfl | (simp; done) | (simp; omega))), rfl⟩
  · skip
    have e0 : (ch == 9) = false := by simp; omega
    have e1 : (ch == 10) = false := by simp; omega
    have e2 : (ch == 11) = false := by simp; omega
    have e3 : (ch == 12) = false := by simp; omega
    have e4 : (ch == 13) = false := by simp; omega
    have e5 : (ch == 32) = false := by simp; omega
    go_enter Tryf.func58, Tryf.ntmps58
    go_wp2
    go_ret
    exact ⟨sg_ret (sg_lo (by unfold cls115; omega) (by first | rfl | (simp; done) | (simp; omega))), rfl⟩

set_option maxRecDepth 100000 in
set_option maxHeartbeats 1000000 in
theorem single_117 (ch : Int) (a : Addr) (w : World) (hc : w.cell? a = some (.int .i64 117)) :
    Calls Tryf.prog 58 #[.pointer (some a), .int .i64 ch] w fun e w' => e = .returned (.bool (decide (cls117 ch))) ∧ w = w' := by
  rcases (show (ch < 65) ∨ (65 ≤ ch ∧ ch ≤ 90) ∨ 90 < ch by omega) with h | ⟨h, h'⟩ | h
  · skip
    have p0 : decide ((65 : Int) ≤ ch) = false := by simp; omega
    have q0 : decide (ch ≤ (90 : Int)) = true := by simp; omega
    go_enter Tryf.func58, Tryf.ntmps58
    go_wp2
    go_ret
    exact ⟨sg_ret (sg_lo (by unfold cls117; omega) (by first | rfl | (simp; done) | (simp; omega))), rfl⟩
  · skip
    have p0 : decide ((65 : Int) ≤ ch) = true := by simp; omega
    have q0 : decide (ch ≤ (90 : Int)) = true := by simp; omega
    go_enter Tryf.func58, Tryf.ntmps58
    go_wp2
    go_ret
    exact ⟨sg_ret (sg_hi (by unfold cls117; omega) (by first | rfl | (simp; done) | (simp; omega))), rfl⟩
  · skip
    have p0 : decide ((65 : Int) ≤ ch) = true := by simp; omega
    have q0 : decide (ch ≤ (90 : Int)) = false := by simp; omega
    go_enter Tryf.func58, Tryf.ntmps58
    go_wp2
    go_ret
    exact ⟨sg_ret (sg_lo (by unfold cls117; omega) (by first | rfl | (simp; done) | (simp; omega))), rfl⟩

set_option maxRecDepth 100000 in
set_option maxHeartbeats 1000000 in
theorem single_119 (ch : Int) (a : Addr) (w : World) (hc : w.cell? a = some (.int .i64 119)) :
    Calls Tryf.prog 58 #[.pointer (some a), .int .i64 ch] w fun e w' => e = .returned (.bool (decide (cls119 ch))) ∧ w = w' := by
  rcases (show (ch < 48) ∨ (48 ≤ ch ∧ ch ≤ 57) ∨ (57 < ch ∧ ch < 65) ∨ (65 ≤ ch ∧ ch ≤ 90) ∨ (90 < ch ∧ ch < 97) ∨ (97 ≤ ch ∧ ch ≤ 122) ∨ 122 < ch by omega) with h | ⟨h, h'⟩ | ⟨h, h'⟩ | ⟨h, h'⟩ | ⟨h, h'⟩ | ⟨h, h'⟩ | h
  · skip
    have p0 : decide ((48 : Int) ≤ ch) = false := by simp; omega
    have q0 : decide (ch ≤ (57 : Int)) = true := by simp; omega
    have p1 : decide ((65 : Int) ≤ ch) = false := by simp; omega
    have q1 : decide (ch ≤ (90 : Int)) = true := by simp; omega
    have p2 : decide ((97 : Int) ≤ ch) = false := by simp; omega
    have q2 : decide (ch ≤ (122 : Int)) = true := by simp; omega
    go_enter Tryf.func58, Tryf.ntmps58
    go_wp2
    go_ret
    exact ⟨sg_ret (sg_lo (by unfold cls119; omega) (by first | rfl | (simp; done) | (simp; omega))), rfl⟩
  · skip
    have p0 : decide ((48 : Int) ≤ ch) = true := by simp; omega
    have q0 : decide (ch ≤ (57 : Int)) = true := by simp; omega
    have p1 : decide ((65 : Int) ≤ ch) = false := by simp; omega
    have q1 : decide (ch ≤ (90 : Int)) = true := by simp; omega
    have p2 : decide ((97 : Int) ≤ ch) = false := by simp; omega
    have q2 : decide (ch ≤ (122 : Int)) = true := by simp; omega
    go_enter Tryf.func58, Tryf.ntmps58
    go_wp2
    go_ret
    exact ⟨sg_ret (sg_hi (by unfold cls119; omega) (by first | rfl | (simp; done) | (simp; omega))), rfl⟩
  · skip
    have p0 : decide ((48 : Int) ≤ ch) = true := by simp; omega
    have q0 : decide (ch ≤ (57 : Int)) = false := by simp; omega
    have p1 : decide ((65 : Int) ≤ ch) = false := by simp; omega
    have q1 : decide (ch ≤ (90 : Int)) = true := by simp; omega
    have p2 : decide ((97 : Int) ≤ ch) = false := by simp; omega
    have q2 : decide (ch ≤ (122 : Int)) = true := by simp; omega
    go_enter Tryf.func58, Tryf.ntmps58
    go_wp2
    go_ret
    exact ⟨sg_ret (sg_lo (by unfold cls119; omega) (by first | rfl | (simp; done) | (simp; omega))), rfl⟩
  · skip
    have p0 : decide ((48 : Int) ≤ ch) = true := by simp; omega
    have q0 : decide (ch ≤ (57 : Int)) = false := by simp; omega
    have p1 : decide ((65 : Int) ≤ ch) = true := by simp; omega
    have q1 : decide (ch ≤ (90 : Int)) = true := by simp; omega
    have p2 : decide ((97 : Int) ≤ ch) = false := by simp; omega
    have q2 : decide (ch ≤ (122 : Int)) = true := by simp; omega
    go_enter Tryf.func58, Tryf.ntmps58
    go_wp2
    go_ret
    exact ⟨sg_ret (sg_hi (by unfold cls119; omega) (by first | rfl | (simp; done) | (simp; omega))), rfl⟩
  · skip
    have p0 : decide ((48 : Int) ≤ ch) = true := by simp; omega
    have q0 : decide (ch ≤ (57 : Int)) = false := by simp; omega
    have p1 : decide ((65 : Int) ≤ ch) = true := by simp; omega
    have q1 : decide (ch ≤ (90 : Int)) = false := by simp; omega
    have p2 : decide ((97 : Int) ≤ ch) = false := by simp; omega
    have q2 : decide (ch ≤ (122 : Int)) = true := by simp; omega
    go_enter Tryf.func58, Tryf.ntmps58
    go_wp2
    go_ret
    exact ⟨sg_ret (sg_lo (by unfold cls119; omega) (by first | rfl | (simp; done) | (simp; omega))), rfl⟩
  · skip
    have p0 : decide ((48 : Int) ≤ ch) = true := by simp; omega
    have q0 : decide (ch ≤ (57 : Int)) = false := by simp; omega
    have p1 : decide ((65 : Int) ≤ ch) = true := by simp; omega
    have q1 : decide (ch ≤ (90 : Int)) = false := by simp; omega
    have p2 : decide ((97 : Int) ≤ ch) = true := by simp; omega
    have q2 : decide (ch ≤ (122 : Int)) = true := by simp; omega
    go_enter Tryf.func58, Tryf.ntmps58
    go_wp2
    go_ret
    exact ⟨sg_ret (sg_hi (by unfold cls119; omega) (by first | rfl | (simp; done) | (simp; omega))), rfl⟩
  · skip
    have p0 : decide ((48 : Int) ≤ ch) = true := by simp; omega
    have q0 : decide (ch ≤ (57 : Int)) = false := by simp; omega
    have p1 : decide ((65 : Int) ≤ ch) = true := by simp; omega
    have q1 : decide (ch ≤ (90 : Int)) = false := by simp; omega
    have p2 : decide ((97 : Int) ≤ ch) = true := by simp; omega
    have q2 : decide (ch ≤ (122 : Int)) = false := by simp; omega
    go_enter Tryf.func58, Tryf.ntmps58
    go_wp2
    go_ret
    exact ⟨sg_ret (sg_lo (by unfold cls119; omega) (by first | rfl | (simp; done) | (simp; omega))), rfl⟩

set_option maxRecDepth 100000 in
set_option maxHeartbeats 1000000 in
theorem single_120 (ch : Int) (a : Addr) (w : World) (hc : w.cell? a = some (.int .i64 120)) :
    Calls Tryf.prog 58 #[.pointer (some a), .int .i64 ch] w fun e w' => e = .returned (.bool (decide (cls120 ch))) ∧ w = w' := by
  rcases (show (ch < 48) ∨ (48 ≤ ch ∧ ch ≤ 57) ∨ (57 < ch ∧ ch < 65) ∨ (65 ≤ ch ∧ ch ≤ 70) ∨ (70 < ch ∧ ch < 97) ∨ (97 ≤ ch ∧ ch ≤ 102) ∨ 102 < ch by omega) with h | ⟨h, h'⟩ | ⟨h, h'⟩ | ⟨h, h'⟩ | ⟨h, h'⟩ | ⟨h, h'⟩ | h
  · skip
    have p0 : decide ((48 : Int) ≤ ch) = false := by simp; omega
    have q0 : decide (ch ≤ (57 : Int)) = true := by simp; omega
    have p1 : decide ((65 : Int) ≤ ch) = false := by simp; omega
    have q1 : decide (ch ≤ (70 : Int)) = true := by simp; omega
    have p2 : decide ((97 : Int) ≤ ch) = false := by simp; omega
    have q2 : decide (ch ≤ (102 : Int)) = true := by simp; omega
    go_enter Tryf.func58, Tryf.ntmps58
    go_wp2
    go_ret
    exact ⟨sg_ret (sg_lo (by unfold cls120; omega) (by first | rfl | (simp; done) | (simp; omega))), rfl⟩
  · skip
    have p0 : decide ((48 : Int) ≤ ch) = true := by simp; omega
    have q0 : decide (ch ≤ (57 : Int)) = true := by simp; omega
    have p1 : decide ((65 : Int) ≤ ch) = false := by simp; omega
    have q1 : decide (ch ≤ (70 : Int)) = true := by simp; omega
    have p2 : decide ((97 : Int) ≤ ch) = false := by simp; omega
    have q2 : decide (ch ≤ (102 : Int)) = true := by simp; omega
    go_enter Tryf.func58, Tryf.ntmps58
    go_wp2
    go_ret
    exact ⟨sg_ret (sg_hi (by unfold cls120; omega) (by first | rfl | (simp; done) | (simp; omega))), rfl⟩
  · skip
    have p0 : decide ((48 : Int) ≤ ch) = true := by simp; omega
    have q0 : decide (ch ≤ (57 : Int)) = false := by simp; omega
    have p1 : decide ((65 : Int) ≤ ch) = false := by simp; omega
    have q1 : decide (ch ≤ (70 : Int)) = true := by simp; omega
    have p2 : decide ((97 : Int) ≤ ch) = false := by simp; omega
    have q2 : decide (ch ≤ (102 : Int)) = true := by simp; omega
    go_enter Tryf.func58, Tryf.ntmps58
    go_wp2
    go_ret
    exact ⟨sg_ret (sg_lo (by unfold cls120; omega) (by first | rfl | (simp; done) | (simp; omega))), rfl⟩
  · skip
    have p0 : decide ((48 : Int) ≤ ch) = true := by simp; omega
    have q0 : decide (ch ≤ (57 : Int)) = false := by simp; omega
    have p1 : decide ((65 : Int) ≤ ch) = true := by simp; omega
    have q1 : decide (ch ≤ (70 : Int)) = true := by simp; omega
    have p2 : decide ((97 : Int) ≤ ch) = false := by simp; omega
    have q2 : decide (ch ≤ (102 : Int)) = true := by simp; omega
    go_enter Tryf.func58, Tryf.ntmps58
    go_wp2
    go_ret
    exact ⟨sg_ret (sg_hi (by unfold cls120; omega) (by first | rfl | (simp; done) | (simp; omega))), rfl⟩
  · skip
    have p0 : decide ((48 : Int) ≤ ch) = true := by simp; omega
    have q0 : decide (ch ≤ (57 : Int)) = false := by simp; omega
    have p1 : decide ((65 : Int) ≤ ch) = true := by simp; omega
    have q1 : decide (ch ≤ (70 : Int)) = false := by simp; omega
    have p2 : decide ((97 : Int) ≤ ch) = false := by simp; omega
    have q2 : decide (ch ≤ (102 : Int)) = true := by simp; omega
    go_enter Tryf.func58, Tryf.ntmps58
    go_wp2
    go_ret
    exact ⟨sg_ret (sg_lo (by unfold cls120; omega) (by first | rfl | (simp; done) | (simp; omega))), rfl⟩
  · skip
    have p0 : decide ((48 : Int) ≤ ch) = true := by simp; omega
    have q0 : decide (ch ≤ (57 : Int)) = false := by simp; omega
    have p1 : decide ((65 : Int) ≤ ch) = true := by simp; omega
    have q1 : decide (ch ≤ (70 : Int)) = false := by simp; omega
    have p2 : decide ((97 : Int) ≤ ch) = true := by simp; omega
    have q2 : decide (ch ≤ (102 : Int)) = true := by simp; omega
    go_enter Tryf.func58, Tryf.ntmps58
    go_wp2
    go_ret
    exact ⟨sg_ret (sg_hi (by unfold cls120; omega) (by first | rfl | (simp; done) | (simp; omega))), rfl⟩
  · skip
    have p0 : decide ((48 : Int) ≤ ch) = true := by simp; omega
    have q0 : decide (ch ≤ (57 : Int)) = false := by simp; omega
    have p1 : decide ((65 : Int) ≤ ch) = true := by simp; omega
    have q1 : decide (ch ≤ (70 : Int)) = false := by simp; omega
    have p2 : decide ((97 : Int) ≤ ch) = true := by simp; omega
    have q2 : decide (ch ≤ (102 : Int)) = false := by simp; omega
    go_enter Tryf.func58, Tryf.ntmps58
    go_wp2
    go_ret
    exact ⟨sg_ret (sg_lo (by unfold cls120; omega) (by first | rfl | (simp; done) | (simp; omega))), rfl⟩

set_option maxRecDepth 100000 in
set_option maxHeartbeats 1000000 in
theorem single_122 (ch : Int) (a : Addr) (w : World) (hc : w.cell? a = some (.int .i64 122)) :
    Calls Tryf.prog 58 #[.pointer (some a), .int .i64 ch] w fun e w' => e = .returned (.bool (decide (cls122 ch))) ∧ w = w' := by
  rcases (show (ch < 0) ∨ ch = 0 ∨ 0 < ch by omega) with h | rfl | h
  · skip
    have e0 : (ch == 0) = false := by simp; omega
    go_enter Tryf.func58, Tryf.ntmps58
    go_wp2
    go_ret
    exact ⟨sg_ret (sg_lo (by unfold cls122; omega) (by first | rfl | (simp; done) | (simp; omega))), rfl⟩
  · skip
    go_enter Tryf.func58, Tryf.ntmps58
    go_wp2
    go_ret
    exact ⟨sg_ret (sg_hi (by unfold cls122; omega) (by first | rfl | (simp; done) | (simp; omega))), rfl⟩
  · skip
    have e0 : (ch == 0) = false := by simp; omega
    go_enter Tryf.func58, Tryf.ntmps58
    go_wp2
    go_ret
    exact ⟨sg_ret (sg_lo (by unfold cls122; omega) (by first | rfl | (simp; done) | (simp; omega))), rfl⟩


end Go.Proofs.YtcfhhcjcnafcjaaFmt
