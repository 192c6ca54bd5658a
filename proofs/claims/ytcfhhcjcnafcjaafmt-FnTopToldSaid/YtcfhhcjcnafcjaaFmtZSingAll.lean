/-
  The contract of zzSingle. Conditions as each statement says.
-/
import Derived.Test.YtcfhhcjcnafcjaaFmtSingleDefs
namespace Go.Proofs.YtcfhhcjcnafcjaaFmt
open Go.RowKit
set_option linter.unusedVariables false
set_option linter.unusedSimpArgs false


set_option maxRecDepth 100000 in
set_option maxHeartbeats 1000000 in
theorem zsing_97 (ch : Int) (h0 : 0 ≤ ch) (w : World) :
    Calls Tryf.prog 40 #[.int .i64 97, .int .i64 ch] w fun e w' => e = .returned (.bool (decide (cls97 ch))) ∧ w = w' := by
  rcases (show (0 ≤ ch ∧ ch ≤ 64) ∨ (65 ≤ ch ∧ ch ≤ 90) ∨ (91 ≤ ch ∧ ch ≤ 96) ∨ (97 ≤ ch ∧ ch ≤ 122) ∨ 123 ≤ ch by omega) with ⟨h, h'⟩ | ⟨h, h'⟩ | ⟨h, h'⟩ | ⟨h, h'⟩ | h
  · skip
    have p0 : decide ((65 : Int) ≤ ch) = false := by simp; omega
    have q0 : decide (ch ≤ (90 : Int)) = true := by simp; omega
    have p1 : decide ((97 : Int) ≤ ch) = false := by simp; omega
    have q1 : decide (ch ≤ (122 : Int)) = true := by simp; omega
    go_enter Tryf.func40, Tryf.ntmps40
    go_wp2
    go_ret
    exact ⟨sg_ret (sg_lo (by unfold cls97; omega) (by first | rfl | (simp; done) | (simp; omega))), rfl⟩
  · skip
    have p0 : decide ((65 : Int) ≤ ch) = true := by simp; omega
    have q0 : decide (ch ≤ (90 : Int)) = true := by simp; omega
    have p1 : decide ((97 : Int) ≤ ch) = false := by simp; omega
    have q1 : decide (ch ≤ (122 : Int)) = true := by simp; omega
    go_enter Tryf.func40, Tryf.ntmps40
    go_wp2
    go_ret
    exact ⟨sg_ret (sg_hi (by unfold cls97; omega) (by first | rfl | (simp; done) | (simp; omega))), rfl⟩
  · skip
    have p0 : decide ((65 : Int) ≤ ch) = true := by simp; omega
    have q0 : decide (ch ≤ (90 : Int)) = false := by simp; omega
    have p1 : decide ((97 : Int) ≤ ch) = false := by simp; omega
    have q1 : decide (ch ≤ (122 : Int)) = true := by simp; omega
    go_enter Tryf.func40, Tryf.ntmps40
    go_wp2
    go_ret
    exact ⟨sg_ret (sg_lo (by unfold cls97; omega) (by first | rfl | (simp; done) | (simp; omega))), rfl⟩
  · skip
    have p0 : decide ((65 : Int) ≤ ch) = true := by simp; omega
    have q0 : decide (ch ≤ (90 : Int)) = false := by simp; omega
    have p1 : decide ((97 : Int) ≤ ch) = true := by simp; omega
    have q1 : decide (ch ≤ (122 : Int)) = true := by simp; omega
    go_enter Tryf.func40, Tryf.ntmps40
    go_wp2
    go_ret
    exact ⟨sg_ret (sg_hi (by unfold cls97; omega) (by first | rfl | (simp; done) | (simp; omega))), rfl⟩
  · skip
    have p0 : decide ((65 : Int) ≤ ch) = true := by simp; omega
    have q0 : decide (ch ≤ (90 : Int)) = false := by simp; omega
    have p1 : decide ((97 : Int) ≤ ch) = true := by simp; omega
    have q1 : decide (ch ≤ (122 : Int)) = false := by simp; omega
    go_enter Tryf.func40, Tryf.ntmps40
    go_wp2
    go_ret
    exact ⟨sg_ret (sg_lo (by unfold cls97; omega) (by first | rfl | (simp; done) | (simp; omega))), rfl⟩
set_option maxRecDepth 100000 in
set_option maxHeartbeats 1000000 in
theorem zsing_99 (ch : Int) (h0 : 0 ≤ ch) (w : World) :
    Calls Tryf.prog 40 #[.int .i64 99, .int .i64 ch] w fun e w' => e = .returned (.bool (decide (cls99 ch))) ∧ w = w' := by
  rcases (show (0 ≤ ch ∧ ch ≤ 31) ∨ (32 ≤ ch ∧ ch ≤ 126) ∨ ch = 127 ∨ 128 ≤ ch by omega) with ⟨h, h'⟩ | ⟨h, h'⟩ | rfl | h
  · skip
    have q0 : decide (ch ≤ (31 : Int)) = true := by simp; omega
    have e1 : (ch == 127) = false := by simp; omega
    go_enter Tryf.func40, Tryf.ntmps40
    go_wp2
    go_ret
    exact ⟨sg_ret (sg_hi (by unfold cls99; omega) (by first | rfl | (simp; done) | (simp; omega))), rfl⟩
  · skip
    have q0 : decide (ch ≤ (31 : Int)) = false := by simp; omega
    have e1 : (ch == 127) = false := by simp; omega
    go_enter Tryf.func40, Tryf.ntmps40
    go_wp2
    go_ret
    exact ⟨sg_ret (sg_lo (by unfold cls99; omega) (by first | rfl | (simp; done) | (simp; omega))), rfl⟩
  · skip
    go_enter Tryf.func40, Tryf.ntmps40
    go_wp2
    go_ret
    exact ⟨sg_ret (sg_hi (by unfold cls99; omega) (by first | rfl | (simp; done) | (simp; omega))), rfl⟩
  · skip
    have q0 : decide (ch ≤ (31 : Int)) = false := by simp; omega
    have e1 : (ch == 127) = false := by simp; omega
    go_enter Tryf.func40, Tryf.ntmps40
    go_wp2
    go_ret
    exact ⟨sg_ret (sg_lo (by unfold cls99; omega) (by first | rfl | (simp; done) | (simp; omega))), rfl⟩
set_option maxRecDepth 100000 in
set_option maxHeartbeats 1000000 in
theorem zsing_100 (ch : Int) (h0 : 0 ≤ ch) (w : World) :
    Calls Tryf.prog 40 #[.int .i64 100, .int .i64 ch] w fun e w' => e = .returned (.bool (decide (cls100 ch))) ∧ w = w' := by
  rcases (show (0 ≤ ch ∧ ch ≤ 47) ∨ (48 ≤ ch ∧ ch ≤ 57) ∨ 58 ≤ ch by omega) with ⟨h, h'⟩ | ⟨h, h'⟩ | h
  · skip
    have p0 : decide ((48 : Int) ≤ ch) = false := by simp; omega
    have q0 : decide (ch ≤ (57 : Int)) = true := by simp; omega
    go_enter Tryf.func40, Tryf.ntmps40
    go_wp2
    go_ret
    exact ⟨sg_ret (sg_lo (by unfold cls100; omega) (by first | rfl | (simp; done) | (simp; omega))), rfl⟩
  · skip
    have p0 : decide ((48 : Int) ≤ ch) = true := by simp; omega
    have q0 : decide (ch ≤ (57 : Int)) = true := by simp; omega
    go_enter Tryf.func40, Tryf.ntmps40
    go_wp2
    go_ret
    exact ⟨sg_ret (sg_hi (by unfold cls100; omega) (by first | rfl | (simp; done) | (simp; omega))), rfl⟩
  · skip
    have p0 : decide ((48 : Int) ≤ ch) = true := by simp; omega
    have q0 : decide (ch ≤ (57 : Int)) = false := by simp; omega
    go_enter Tryf.func40, Tryf.ntmps40
    go_wp2
    go_ret
    exact ⟨sg_ret (sg_lo (by unfold cls100; omega) (by first | rfl | (simp; done) | (simp; omega))), rfl⟩
set_option maxRecDepth 100000 in
set_option maxHeartbeats 1000000 in
theorem zsing_108 (ch : Int) (h0 : 0 ≤ ch) (w : World) :
    Calls Tryf.prog 40 #[.int .i64 108, .int .i64 ch] w fun e w' => e = .returned (.bool (decide (cls108 ch))) ∧ w = w' := by
  rcases (show (0 ≤ ch ∧ ch ≤ 96) ∨ (97 ≤ ch ∧ ch ≤ 122) ∨ 123 ≤ ch by omega) with ⟨h, h'⟩ | ⟨h, h'⟩ | h
  · skip
    have p0 : decide ((97 : Int) ≤ ch) = false := by simp; omega
    have q0 : decide (ch ≤ (122 : Int)) = true := by simp; omega
    go_enter Tryf.func40, Tryf.ntmps40
    go_wp2
    go_ret
    exact ⟨sg_ret (sg_lo (by unfold cls108; omega) (by first | rfl | (simp; done) | (simp; omega))), rfl⟩
  · skip
    have p0 : decide ((97 : Int) ≤ ch) = true := by simp; omega
    have q0 : decide (ch ≤ (122 : Int)) = true := by simp; omega
    go_enter Tryf.func40, Tryf.ntmps40
    go_wp2
    go_ret
    exact ⟨sg_ret (sg_hi (by unfold cls108; omega) (by first | rfl | (simp; done) | (simp; omega))), rfl⟩
  · skip
    have p0 : decide ((97 : Int) ≤ ch) = true := by simp; omega
    have q0 : decide (ch ≤ (122 : Int)) = false := by simp; omega
    go_enter Tryf.func40, Tryf.ntmps40
    go_wp2
    go_ret
    exact ⟨sg_ret (sg_lo (by unfold cls108; omega) (by first | rfl | (simp; done) | (simp; omega))), rfl⟩
set_option maxRecDepth 100000 in
set_option maxHeartbeats 1000000 in
theorem zsing_112 (ch : Int) (h0 : 0 ≤ ch) (w : World) :
    Calls Tryf.prog 40 #[.int .i64 112, .int .i64 ch] w fun e w' => e = .returned (.bool (decide (cls112 ch))) ∧ w = w' := by
  rcases (show (0 ≤ ch ∧ ch ≤ 32) ∨ (33 ≤ ch ∧ ch ≤ 47) ∨ (48 ≤ ch ∧ ch ≤ 57) ∨ (58 ≤ ch ∧ ch ≤ 64) ∨ (65 ≤ ch ∧ ch ≤ 90) ∨ (91 ≤ ch ∧ ch ≤ 96) ∨ (97 ≤ ch ∧ ch ≤ 122) ∨ (123 ≤ ch ∧ ch ≤ 126) ∨ 127 ≤ ch by omega) with ⟨h, h'⟩ | ⟨h, h'⟩ | ⟨h, h'⟩ | ⟨h, h'⟩ | ⟨h, h'⟩ | ⟨h, h'⟩ | ⟨h, h'⟩ | ⟨h, h'⟩ | h
  · skip
    have p0 : decide ((33 : Int) ≤ ch) = false := by simp; omega
    have q0 : decide (ch ≤ (47 : Int)) = true := by simp; omega
    have p1 : decide ((58 : Int) ≤ ch) = false := by simp; omega
    have q1 : decide (ch ≤ (64 : Int)) = true := by simp; omega
    have p2 : decide ((91 : Int) ≤ ch) = false := by simp; omega
    have q2 : decide (ch ≤ (96 : Int)) = true := by simp; omega
    have p3 : decide ((123 : Int) ≤ ch) = false := by simp; omega
    have q3 : decide (ch ≤ (126 : Int)) = true := by simp; omega
    go_enter Tryf.func40, Tryf.ntmps40
    go_wp2
    go_ret
    exact ⟨sg_ret (sg_lo (by unfold cls112; omega) (by first | rfl | (simp; done) | (simp; omega))), rfl⟩
  · skip
    have p0 : decide ((33 : Int) ≤ ch) = true := by simp; omega
    have q0 : decide (ch ≤ (47 : Int)) = true := by simp; omega
    have p1 : decide ((58 : Int) ≤ ch) = false := by simp; omega
    have q1 : decide (ch ≤ (64 : Int)) = true := by simp; omega
    have p2 : decide ((91 : Int) ≤ ch) = false := by simp; omega
    have q2 : decide (ch ≤ (96 : Int)) = true := by simp; omega
    have p3 : decide ((123 : Int) ≤ ch) = false := by simp; omega
    have q3 : decide (ch ≤ (126 : Int)) = true := by simp; omega
    go_enter Tryf.func40, Tryf.ntmps40
    go_wp2
    go_ret
    exact ⟨sg_ret (sg_hi (by unfold cls112; omega) (by first | rfl | (simp; done) | (simp; omega))), rfl⟩
  · skip
    have p0 : decide ((33 : Int) ≤ ch) = true := by simp; omega
    have q0 : decide (ch ≤ (47 : Int)) = false := by simp; omega
    have p1 : decide ((58 : Int) ≤ ch) = false := by simp; omega
    have q1 : decide (ch ≤ (64 : Int)) = true := by simp; omega
    have p2 : decide ((91 : Int) ≤ ch) = false := by simp; omega
    have q2 : decide (ch ≤ (96 : Int)) = true := by simp; omega
    have p3 : decide ((123 : Int) ≤ ch) = false := by simp; omega
    have q3 : decide (ch ≤ (126 : Int)) = true := by simp; omega
    go_enter Tryf.func40, Tryf.ntmps40
    go_wp2
    go_ret
    exact ⟨sg_ret (sg_lo (by unfold cls112; omega) (by first | rfl | (simp; done) | (simp; omega))), rfl⟩
  · skip
    have p0 : decide ((33 : Int) ≤ ch) = true := by simp; omega
    have q0 : decide (ch ≤ (47 : Int)) = false := by simp; omega
    have p1 : decide ((58 : Int) ≤ ch) = true := by simp; omega
    have q1 : decide (ch ≤ (64 : Int)) = true := by simp; omega
    have p2 : decide ((91 : Int) ≤ ch) = false := by simp; omega
    have q2 : decide (ch ≤ (96 : Int)) = true := by simp; omega
    have p3 : decide ((123 : Int) ≤ ch) = false := by simp; omega
    have q3 : decide (ch ≤ (126 : Int)) = true := by simp; omega
    go_enter Tryf.func40, Tryf.ntmps40
    go_wp2
    go_ret
    exact ⟨sg_ret (sg_hi (by unfold cls112; omega) (by first | rfl | (simp; done) | (simp; omega))), rfl⟩
  · skip
    have p0 : decide ((33 : Int) ≤ ch) = true := by simp; omega
    have q0 : decide (ch ≤ (47 : Int)) = false := by simp; omega
    have p1 : decide ((58 : Int) ≤ ch) = true := by simp; omega
    have q1 : decide (ch ≤ (64 : Int)) = false := by simp; omega
    have p2 : decide ((91 : Int) ≤ ch) = false := by simp; omega
    have q2 : decide (ch ≤ (96 : Int)) = true := by simp; omega
    have p3 : decide ((123 : Int) ≤ ch) = false := by simp; omega
    have q3 : decide (ch ≤ (126 : Int)) = true := by simp; omega
    go_enter Tryf.func40, Tryf.ntmps40
    go_wp2
    go_ret
    exact ⟨sg_ret (sg_lo (by unfold cls112; omega) (by first | rfl | (simp; done) | (simp; omega))), rfl⟩
  · skip
    have p0 : decide ((33 : Int) ≤ ch) = true := by simp; omega
    have q0 : decide (ch ≤ (47 : Int)) = false := by simp; omega
    have p1 : decide ((58 : Int) ≤ ch) = true := by simp; omega
    have q1 : decide (ch ≤ (64 : Int)) = false := by simp; omega
    have p2 : decide ((91 : Int) ≤ ch) = true := by simp; omega
    have q2 : decide (ch ≤ (96 : Int)) = true := by simp; omega
    have p3 : decide ((123 : Int) ≤ ch) = false := by simp; omega
    have q3 : decide (ch ≤ (126 : Int)) = true := by simp; omega
    go_enter Tryf.func40, Tryf.ntmps40
    go_wp2
    go_ret
    exact ⟨sg_ret (sg_hi (by unfold cls112; omega) (by first | rfl | (simp; done) | (simp; omega))), rfl⟩
  · skip
    have p0 : decide ((33 : Int) ≤ ch) = true := by simp; omega
    have q0 : decide (ch ≤ (47 : Int)) = false := by simp; omega
    have p1 : decide ((58 : Int) ≤ ch) = true := by simp; omega
    have q1 : decide (ch ≤ (64 : Int)) = false := by simp; omega
    have p2 : decide ((91 : Int) ≤ ch) = true := by simp; omega
    have q2 : decide (ch ≤ (96 : Int)) = false := by simp; omega
    have p3 : decide ((123 : Int) ≤ ch) = false := by simp; omega
    have q3 : decide (ch ≤ (126 : Int)) = true := by simp; omega
    go_enter Tryf.func40, Tryf.ntmps40
    go_wp2
    go_ret
    exact ⟨sg_ret (sg_lo (by unfold cls112; omega) (by first | rfl | (simp; done) | (simp; omega))), rfl⟩
  · skip
    have p0 : decide ((33 : Int) ≤ ch) = true := by simp; omega
    have q0 : decide (ch ≤ (47 : Int)) = false := by simp; omega
    have p1 : decide ((58 : Int) ≤ ch) = true := by simp; omega
    have q1 : decide (ch ≤ (64 : Int)) = false := by simp; omega
    have p2 : decide ((91 : Int) ≤ ch) = true := by simp; omega
    have q2 : decide (ch ≤ (96 : Int)) = false := by simp; omega
    have p3 : decide ((123 : Int) ≤ ch) = true := by simp; omega
    have q3 : decide (ch ≤ (126 : Int)) = true := by simp; omega
    go_enter Tryf.func40, Tryf.ntmps40
    go_wp2
    go_ret
    exact ⟨sg_ret (sg_hi (by unfold cls112; omega) (by first | rfl | (simp; done) | (simp; omega))), rfl⟩
  · skip
    have p0 : decide ((33 : Int) ≤ ch) = true := by simp; omega
    have q0 : decide (ch ≤ (47 : Int)) = false := by simp; omega
    have p1 : decide ((58 : Int) ≤ ch) = true := by simp; omega
    have q1 : decide (ch ≤ (64 : Int)) = false := by simp; omega
    have p2 : decide ((91 : Int) ≤ ch) = true := by simp; omega
    have q2 : decide (ch ≤ (96 : Int)) = false := by simp; omega
    have p3 : decide ((123 : Int) ≤ ch) = true := by simp; omega
    have q3 : decide (ch ≤ (126 : Int)) = false := by simp; omega
    go_enter Tryf.func40, Tryf.ntmps40
    go_wp2
    go_ret
    exact ⟨sg_ret (sg_lo (by unfold cls112; omega) (by first | rfl | (simp; done) | (simp; omega))), rfl⟩
set_option maxRecDepth 100000 in
set_option maxHeartbeats 1000000 in
theorem zsing_115 (ch : Int) (h0 : 0 ≤ ch) (w : World) :
    Calls Tryf.prog 40 #[.int .i64 115, .int .i64 ch] w fun e w' => e = .returned (.bool (decide (cls115 ch))) ∧ w = w' := by
  rcases (show (0 ≤ ch ∧ ch ≤ 8) ∨ (9 ≤ ch ∧ ch ≤ 13) ∨ (14 ≤ ch ∧ ch ≤ 31) ∨ ch = 32 ∨ 33 ≤ ch by omega) with ⟨h, h'⟩ | ⟨h, h'⟩ | ⟨h, h'⟩ | rfl | h
  · skip
    have p0 : decide ((9 : Int) ≤ ch) = false := by simp; omega
    have q0 : decide (ch ≤ (13 : Int)) = true := by simp; omega
    have e1 : (ch == 32) = false := by simp; omega
    go_enter Tryf.func40, Tryf.ntmps40
    go_wp2
    go_ret
    exact ⟨sg_ret (sg_lo (by unfold cls115; omega) (by first | rfl | (simp; done) | (simp; omega))), rfl⟩
  · skip
    have p0 : decide ((9 : Int) ≤ ch) = true := by simp; omega
    have q0 : decide (ch ≤ (13 : Int)) = true := by simp; omega
    have e1 : (ch == 32) = false := by simp; omega
    go_enter Tryf.func40, Tryf.ntmps40
    go_wp2
    go_ret
    exact ⟨sg_ret (sg_hi (by unfold cls115; omega) (by first | rfl | (simp; done) | (simp; omega))), rfl⟩
  · skip
    have p0 : decide ((9 : Int) ≤ ch) = true := by simp; omega
    have q0 : decide (ch ≤ (13 : Int)) = false := by simp; omega
    have e1 : (ch == 32) = false := by simp; omega
    go_enter Tryf.func40, Tryf.ntmps40
    go_wp2
    go_ret
    exact ⟨sg_ret (sg_lo (by unfold cls115; omega) (by first | rfl | (simp; done) | (simp; omega))), rfl⟩
  · skip
    go_enter Tryf.func40, Tryf.ntmps40
    go_wp2
    go_ret
    exact ⟨sg_ret (sg_hi (by unfold cls115; omega) (by first | rfl | (simp; done) | (simp; omega))), rfl⟩
  · skip
    have p0 : decide ((9 : Int) ≤ ch) = true := by simp; omega
    have q0 : decide (ch ≤ (13 : Int)) = false := by simp; omega
    have e1 : (ch == 32) = false := by simp; omega
    go_enter Tryf.func40, Tryf.ntmps40
    go_wp2
    go_ret
    exact ⟨sg_ret (sg_lo (by unfold cls115; omega) (by first | rfl | (simp; done) | (simp; omega))), rfl⟩
set_option maxRecDepth 100000 in
set_option maxHeartbeats 1000000 in
theorem zsing_117 (ch : Int) (h0 : 0 ≤ ch) (w : World) :
    Calls Tryf.prog 40 #[.int .i64 117, .int .i64 ch] w fun e w' => e = .returned (.bool (decide (cls117 ch))) ∧ w = w' := by
  rcases (show (0 ≤ ch ∧ ch ≤ 64) ∨ (65 ≤ ch ∧ ch ≤ 90) ∨ 91 ≤ ch by omega) with ⟨h, h'⟩ | ⟨h, h'⟩ | h
  · skip
    have p0 : decide ((65 : Int) ≤ ch) = false := by simp; omega
    have q0 : decide (ch ≤ (90 : Int)) = true := by simp; omega
    go_enter Tryf.func40, Tryf.ntmps40
    go_wp2
    go_ret
    exact ⟨sg_ret (sg_lo (by unfold cls117; omega) (by first | rfl | (simp; done) | (simp; omega))), rfl⟩
  · skip
    have p0 : decide ((65 : Int) ≤ ch) = true := by simp; omega
    have q0 : decide (ch ≤ (90 : Int)) = true := by simp; omega
    go_enter Tryf.func40, Tryf.ntmps40
    go_wp2
    go_ret
    exact ⟨sg_ret (sg_hi (by unfold cls117; omega) (by first | rfl | (simp; done) | (simp; omega))), rfl⟩
  · skip
    have p0 : decide ((65 : Int) ≤ ch) = true := by simp; omega
    have q0 : decide (ch ≤ (90 : Int)) = false := by simp; omega
    go_enter Tryf.func40, Tryf.ntmps40
    go_wp2
    go_ret
    exact ⟨sg_ret (sg_lo (by unfold cls117; omega) (by first | rfl | (simp; done) | (simp; omega))), rfl⟩
set_option maxRecDepth 100000 in
set_option maxHeartbeats 1000000 in
theorem zsing_119 (ch : Int) (h0 : 0 ≤ ch) (w : World) :
    Calls Tryf.prog 40 #[.int .i64 119, .int .i64 ch] w fun e w' => e = .returned (.bool (decide (cls119 ch))) ∧ w = w' := by
  rcases (show (0 ≤ ch ∧ ch ≤ 47) ∨ (48 ≤ ch ∧ ch ≤ 57) ∨ (58 ≤ ch ∧ ch ≤ 64) ∨ (65 ≤ ch ∧ ch ≤ 90) ∨ (91 ≤ ch ∧ ch ≤ 96) ∨ (97 ≤ ch ∧ ch ≤ 122) ∨ 123 ≤ ch by omega) with ⟨h, h'⟩ | ⟨h, h'⟩ | ⟨h, h'⟩ | ⟨h, h'⟩ | ⟨h, h'⟩ | ⟨h, h'⟩ | h
  · skip
    have p0 : decide ((48 : Int) ≤ ch) = false := by simp; omega
    have q0 : decide (ch ≤ (57 : Int)) = true := by simp; omega
    have p1 : decide ((65 : Int) ≤ ch) = false := by simp; omega
    have q1 : decide (ch ≤ (90 : Int)) = true := by simp; omega
    have p2 : decide ((97 : Int) ≤ ch) = false := by simp; omega
    have q2 : decide (ch ≤ (122 : Int)) = true := by simp; omega
    go_enter Tryf.func40, Tryf.ntmps40
    go_wp2
    go_ret
    exact ⟨sg_ret (sg_lo (by unfold cls119; omega) (by first | rfl | (simp; done) | (simp; omega))), rfl⟩
  · skip
    have p0 : decide ((48 : Int) ≤ ch) = true := by simp; omega
    have q0 : decide (ch ≤ (57 : Int)) = true := by simp; omega
    have p1 : decide ((65 : Int) ≤ ch) = false := by simp; omega
    have q1 : decide (ch ≤ (90 : Int)) = true := by simp; omega
    have p2 : decide ((97 : Int) ≤ ch) = false := by simp; omega
    have q2 : decide (ch ≤ (122 : Int)) = true := by simp; omega
    go_enter Tryf.func40, Tryf.ntmps40
    go_wp2
    go_ret
    exact ⟨sg_ret (sg_hi (by unfold cls119; omega) (by first | rfl | (simp; done) | (simp; omega))), rfl⟩
  · skip
    have p0 : decide ((48 : Int) ≤ ch) = true := by simp; omega
    have q0 : decide (ch ≤ (57 : Int)) = false := by simp; omega
    have p1 : decide ((65 : Int) ≤ ch) = false := by simp; omega
    have q1 : decide (ch ≤ (90 : Int)) = true := by simp; omega
    have p2 : decide ((97 : Int) ≤ ch) = false := by simp; omega
    have q2 : decide (ch ≤ (122 : Int)) = true := by simp; omega
    go_enter Tryf.func40, Tryf.ntmps40
    go_wp2
    go_ret
    exact ⟨sg_ret (sg_lo (by unfold cls119; omega) (by first | rfl | (simp; done) | (simp; omega))), rfl⟩
  · skip
    have p0 : decide ((48 : Int) ≤ ch) = true := by simp; omega
    have q0 : decide (ch ≤ (57 : Int)) = false := by simp; omega
    have p1 : decide ((65 : Int) ≤ ch) = true := by simp; omega
    have q1 : decide (ch ≤ (90 : Int)) = true := by simp; omega
    have p2 : decide ((97 : Int) ≤ ch) = false := by simp; omega
    have q2 : decide (ch ≤ (122 : Int)) = true := by simp; omega
    go_enter Tryf.func40, Tryf.ntmps40
    go_wp2
    go_ret
    exact ⟨sg_ret (sg_hi (by unfold cls119; omega) (by first | rfl | (simp; done) | (simp; omega))), rfl⟩
  · skip
    have p0 : decide ((48 : Int) ≤ ch) = true := by simp; omega
    have q0 : decide (ch ≤ (57 : Int)) = false := by simp; omega
    have p1 : decide ((65 : Int) ≤ ch) = true := by simp; omega
    have q1 : decide (ch ≤ (90 : Int)) = false := by simp; omega
    have p2 : decide ((97 : Int) ≤ ch) = false := by simp; omega
    have q2 : decide (ch ≤ (122 : Int)) = true := by simp; omega
    go_enter Tryf.func40, Tryf.ntmps40
    go_wp2
    go_ret
    exact ⟨sg_ret (sg_lo (by unfold cls119; omega) (by first | rfl | (simp; done) | (simp; omega))), rfl⟩
  · skip
    have p0 : decide ((48 : Int) ≤ ch) = true := by simp; omega
    have q0 : decide (ch ≤ (57 : Int)) = false := by simp; omega
    have p1 : decide ((65 : Int) ≤ ch) = true := by simp; omega
    have q1 : decide (ch ≤ (90 : Int)) = false := by simp; omega
    have p2 : decide ((97 : Int) ≤ ch) = true := by simp; omega
    have q2 : decide (ch ≤ (122 : Int)) = true := by simp; omega
    go_enter Tryf.func40, Tryf.ntmps40
    go_wp2
    go_ret
    exact ⟨sg_ret (sg_hi (by unfold cls119; omega) (by first | rfl | (simp; done) | (simp; omega))), rfl⟩
  · skip
    have p0 : decide ((48 : Int) ≤ ch) = true := by simp; omega
    have q0 : decide (ch ≤ (57 : Int)) = false := by simp; omega
    have p1 : decide ((65 : Int) ≤ ch) = true := by simp; omega
    have q1 : decide (ch ≤ (90 : Int)) = false := by simp; omega
    have p2 : decide ((97 : Int) ≤ ch) = true := by simp; omega
    have q2 : decide (ch ≤ (122 : Int)) = false := by simp; omega
    go_enter Tryf.func40, Tryf.ntmps40
    go_wp2
    go_ret
    exact ⟨sg_ret (sg_lo (by unfold cls119; omega) (by first | rfl | (simp; done) | (simp; omega))), rfl⟩
set_option maxRecDepth 100000 in
set_option maxHeartbeats 1000000 in
theorem zsing_120 (ch : Int) (h0 : 0 ≤ ch) (w : World) :
    Calls Tryf.prog 40 #[.int .i64 120, .int .i64 ch] w fun e w' => e = .returned (.bool (decide (cls120 ch))) ∧ w = w' := by
  rcases (show (0 ≤ ch ∧ ch ≤ 47) ∨ (48 ≤ ch ∧ ch ≤ 57) ∨ (58 ≤ ch ∧ ch ≤ 64) ∨ (65 ≤ ch ∧ ch ≤ 70) ∨ (71 ≤ ch ∧ ch ≤ 96) ∨ (97 ≤ ch ∧ ch ≤ 102) ∨ 103 ≤ ch by omega) with ⟨h, h'⟩ | ⟨h, h'⟩ | ⟨h, h'⟩ | ⟨h, h'⟩ | ⟨h, h'⟩ | ⟨h, h'⟩ | h
  · skip
    have p0 : decide ((48 : Int) ≤ ch) = false := by simp; omega
    have q0 : decide (ch ≤ (57 : Int)) = true := by simp; omega
    have p1 : decide ((65 : Int) ≤ ch) = false := by simp; omega
    have q1 : decide (ch ≤ (70 : Int)) = true := by simp; omega
    have p2 : decide ((97 : Int) ≤ ch) = false := by simp; omega
    have q2 : decide (ch ≤ (102 : Int)) = true := by simp; omega
    go_enter Tryf.func40, Tryf.ntmps40
    go_wp2
    go_ret
    exact ⟨sg_ret (sg_lo (by unfold cls120; omega) (by first | rfl | (simp; done) | (simp; omega))), rfl⟩
  · skip
    have p0 : decide ((48 : Int) ≤ ch) = true := by simp; omega
    have q0 : decide (ch ≤ (57 : Int)) = true := by simp; omega
    have p1 : decide ((65 : Int) ≤ ch) = false := by simp; omega
    have q1 : decide (ch ≤ (70 : Int)) = true := by simp; omega
    have p2 : decide ((97 : Int) ≤ ch) = false := by simp; omega
    have q2 : decide (ch ≤ (102 : Int)) = true := by simp; omega
    go_enter Tryf.func40, Tryf.ntmps40
    go_wp2
    go_ret
    exact ⟨sg_ret (sg_hi (by unfold cls120; omega) (by first | rfl | (simp; done) | (simp; omega))), rfl⟩
  · skip
    have p0 : decide ((48 : Int) ≤ ch) = true := by simp; omega
    have q0 : decide (ch ≤ (57 : Int)) = false := by simp; omega
    have p1 : decide ((65 : Int) ≤ ch) = false := by simp; omega
    have q1 : decide (ch ≤ (70 : Int)) = true := by simp; omega
    have p2 : decide ((97 : Int) ≤ ch) = false := by simp; omega
    have q2 : decide (ch ≤ (102 : Int)) = true := by simp; omega
    go_enter Tryf.func40, Tryf.ntmps40
    go_wp2
    go_ret
    exact ⟨sg_ret (sg_lo (by unfold cls120; omega) (by first | rfl | (simp; done) | (simp; omega))), rfl⟩
  · skip
    have p0 : decide ((48 : Int) ≤ ch) = true := by simp; omega
    have q0 : decide (ch ≤ (57 : Int)) = false := by simp; omega
    have p1 : decide ((65 : Int) ≤ ch) = true := by simp; omega
    have q1 : decide (ch ≤ (70 : Int)) = true := by simp; omega
    have p2 : decide ((97 : Int) ≤ ch) = false := by simp; omega
    have q2 : decide (ch ≤ (102 : Int)) = true := by simp; omega
    go_enter Tryf.func40, Tryf.ntmps40
    go_wp2
    go_ret
    exact ⟨sg_ret (sg_hi (by unfold cls120; omega) (by first | rfl | (simp; done) | (simp; omega))), rfl⟩
  · skip
    have p0 : decide ((48 : Int) ≤ ch) = true := by simp; omega
    have q0 : decide (ch ≤ (57 : Int)) = false := by simp; omega
    have p1 : decide ((65 : Int) ≤ ch) = true := by simp; omega
    have q1 : decide (ch ≤ (70 : Int)) = false := by simp; omega
    have p2 : decide ((97 : Int) ≤ ch) = false := by simp; omega
    have q2 : decide (ch ≤ (102 : Int)) = true := by simp; omega
    go_enter Tryf.func40, Tryf.ntmps40
    go_wp2
    go_ret
    exact ⟨sg_ret (sg_lo (by unfold cls120; omega) (by first | rfl | (simp; done) | (simp; omega))), rfl⟩
  · skip
    have p0 : decide ((48 : Int) ≤ ch) = true := by simp; omega
    have q0 : decide (ch ≤ (57 : Int)) = false := by simp; omega
    have p1 : decide ((65 : Int) ≤ ch) = true := by simp; omega
    have q1 : decide (ch ≤ (70 : Int)) = false := by simp; omega
    have p2 : decide ((97 : Int) ≤ ch) = true := by simp; omega
    have q2 : decide (ch ≤ (102 : Int)) = true := by simp; omega
    go_enter Tryf.func40, Tryf.ntmps40
    go_wp2
    go_ret
    exact ⟨sg_ret (sg_hi (by unfold cls120; omega) (by first | rfl | (simp; done) | (simp; omega))), rfl⟩
  · skip
    have p0 : decide ((48 : Int) ≤ ch) = true := by simp; omega
    have q0 : decide (ch ≤ (57 : Int)) = false := by simp; omega
    have p1 : decide ((65 : Int) ≤ ch) = true := by simp; omega
    have q1 : decide (ch ≤ (70 : Int)) = false := by simp; omega
    have p2 : decide ((97 : Int) ≤ ch) = true := by simp; omega
    have q2 : decide (ch ≤ (102 : Int)) = false := by simp; omega
    go_enter Tryf.func40, Tryf.ntmps40
    go_wp2
    go_ret
    exact ⟨sg_ret (sg_lo (by unfold cls120; omega) (by first | rfl | (simp; done) | (simp; omega))), rfl⟩
set_option maxRecDepth 100000 in
set_option maxHeartbeats 1000000 in
theorem zsing_122 (ch : Int) (h0 : 0 ≤ ch) (w : World) :
    Calls Tryf.prog 40 #[.int .i64 122, .int .i64 ch] w fun e w' => e = .returned (.bool (decide (cls122 ch))) ∧ w = w' := by
  rcases (show ch = 0 ∨ 1 ≤ ch by omega) with rfl | h
  · skip
    go_enter Tryf.func40, Tryf.ntmps40
    go_wp2
    go_ret
    exact ⟨sg_ret (sg_hi (by unfold cls122; omega) (by first | rfl | (simp; done) | (simp; omega))), rfl⟩
  · skip
    have e0 : (ch == 0) = false := by simp; omega
    go_enter Tryf.func40, Tryf.ntmps40
    go_wp2
    go_ret
    exact ⟨sg_ret (sg_lo (by unfold cls122; omega) (by first | rfl | (simp; done) | (simp; omega))), rfl⟩



set_option maxRecDepth 100000 in
set_option maxHeartbeats 1000000 in
theorem zsing_65 (ch : Int) (h0 : 0 ≤ ch) (w : World) :
    Calls Tryf.prog 40 #[.int .i64 65, .int .i64 ch] w fun e w' => e = .returned (.bool (!decide (cls97 ch))) ∧ w = w' := by
  rcases (show (0 ≤ ch ∧ ch ≤ 64) ∨ (65 ≤ ch ∧ ch ≤ 90) ∨ (91 ≤ ch ∧ ch ≤ 96) ∨ (97 ≤ ch ∧ ch ≤ 122) ∨ 123 ≤ ch by omega) with ⟨h, h'⟩ | ⟨h, h'⟩ | ⟨h, h'⟩ | ⟨h, h'⟩ | h
  · skip
    have p0 : decide ((65 : Int) ≤ ch) = false := by simp; omega
    have q0 : decide (ch ≤ (90 : Int)) = true := by simp; omega
    have p1 : decide ((97 : Int) ≤ ch) = false := by simp; omega
    have q1 : decide (ch ≤ (122 : Int)) = true := by simp; omega
    go_enter Tryf.func40, Tryf.ntmps40
    go_wp2
    go_ret
    exact ⟨sg_ret (sg_ulo (by unfold cls97; omega) (by first | rfl | (simp; done) | (simp; omega))), rfl⟩
  · skip
    have p0 : decide ((65 : Int) ≤ ch) = true := by simp; omega
    have q0 : decide (ch ≤ (90 : Int)) = true := by simp; omega
    have p1 : decide ((97 : Int) ≤ ch) = false := by simp; omega
    have q1 : decide (ch ≤ (122 : Int)) = true := by simp; omega
    go_enter Tryf.func40, Tryf.ntmps40
    go_wp2
    go_ret
    exact ⟨sg_ret (sg_uhi (by unfold cls97; omega) (by first | rfl | (simp; done) | (simp; omega))), rfl⟩
  · skip
    have p0 : decide ((65 : Int) ≤ ch) = true := by simp; omega
    have q0 : decide (ch ≤ (90 : Int)) = false := by simp; omega
    have p1 : decide ((97 : Int) ≤ ch) = false := by simp; omega
    have q1 : decide (ch ≤ (122 : Int)) = true := by simp; omega
    go_enter Tryf.func40, Tryf.ntmps40
    go_wp2
    go_ret
    exact ⟨sg_ret (sg_ulo (by unfold cls97; omega) (by first | rfl | (simp; done) | (simp; omega))), rfl⟩
  · skip
    have p0 : decide ((65 : Int) ≤ ch) = true := by simp; omega
    have q0 : decide (ch ≤ (90 : Int)) = false := by simp; omega
    have p1 : decide ((97 : Int) ≤ ch) = true := by simp; omega
    have q1 : decide (ch ≤ (122 : Int)) = true := by simp; omega
    go_enter Tryf.func40, Tryf.ntmps40
    go_wp2
    go_ret
    exact ⟨sg_ret (sg_uhi (by unfold cls97; omega) (by first | rfl | (simp; done) | (simp; omega))), rfl⟩
  · skip
    have p0 : decide ((65 : Int) ≤ ch) = true := by simp; omega
    have q0 : decide (ch ≤ (90 : Int)) = false := by simp; omega
    have p1 : decide ((97 : Int) ≤ ch) = true := by simp; omega
    have q1 : decide (ch ≤ (122 : Int)) = false := by simp; omega
    go_enter Tryf.func40, Tryf.ntmps40
    go_wp2
    go_ret
    exact ⟨sg_ret (sg_ulo (by unfold cls97; omega) (by first | rfl | (simp; done) | (simp; omega))), rfl⟩
set_option maxRecDepth 100000 in
set_option maxHeartbeats 1000000 in
theorem zsing_67 (ch : Int) (h0 : 0 ≤ ch) (w : World) :
    Calls Tryf.prog 40 #[.int .i64 67, .int .i64 ch] w fun e w' => e = .returned (.bool (!decide (cls99 ch))) ∧ w = w' := by
  rcases (show (0 ≤ ch ∧ ch ≤ 31) ∨ (32 ≤ ch ∧ ch ≤ 126) ∨ ch = 127 ∨ 128 ≤ ch by omega) with ⟨h, h'⟩ | ⟨h, h'⟩ | rfl | h
  · skip
    have q0 : decide (ch ≤ (31 : Int)) = true := by simp; omega
    have e1 : (ch == 127) = false := by simp; omega
    go_enter Tryf.func40, Tryf.ntmps40
    go_wp2
    go_ret
    exact ⟨sg_ret (sg_uhi (by unfold cls99; omega) (by first | rfl | (simp; done) | (simp; omega))), rfl⟩
  · skip
    have q0 : decide (ch ≤ (31 : Int)) = false := by simp; omega
    have e1 : (ch == 127) = false := by simp; omega
    go_enter Tryf.func40, Tryf.ntmps40
    go_wp2
    go_ret
    exact ⟨sg_ret (sg_ulo (by unfold cls99; omega) (by first | rfl | (simp; done) | (simp; omega))), rfl⟩
  · skip
    go_enter Tryf.func40, Tryf.ntmps40
    go_wp2
    go_ret
    exact ⟨sg_ret (sg_uhi (by unfold cls99; omega) (by first | rfl | (simp; done) | (simp; omega))), rfl⟩
  · skip
    have q0 : decide (ch ≤ (31 : Int)) = false := by simp; omega
    have e1 : (ch == 127) = false := by simp; omega
    go_enter Tryf.func40, Tryf.ntmps40
    go_wp2
    go_ret
    exact ⟨sg_ret (sg_ulo (by unfold cls99; omega) (by first | rfl | (simp; done) | (simp; omega))), rfl⟩
set_option maxRecDepth 100000 in
set_option maxHeartbeats 1000000 in
theorem zsing_68 (ch : Int) (h0 : 0 ≤ ch) (w : World) :
    Calls Tryf.prog 40 #[.int .i64 68, .int .i64 ch] w fun e w' => e = .returned (.bool (!decide (cls100 ch))) ∧ w = w' := by
  rcases (show (0 ≤ ch ∧ ch ≤ 47) ∨ (48 ≤ ch ∧ ch ≤ 57) ∨ 58 ≤ ch by omega) with ⟨h, h'⟩ | ⟨h, h'⟩ | h
  · skip
    have p0 : decide ((48 : Int) ≤ ch) = false := by simp; omega
    have q0 : decide (ch ≤ (57 : Int)) = true := by simp; omega
    go_enter Tryf.func40, Tryf.ntmps40
    go_wp2
    go_ret
    exact ⟨sg_ret (sg_ulo (by unfold cls100; omega) (by first | rfl | (simp; done) | (simp; omega))), rfl⟩
  · skip
    have p0 : decide ((48 : Int) ≤ ch) = true := by simp; omega
    have q0 : decide (ch ≤ (57 : Int)) = true := by simp; omega
    go_enter Tryf.func40, Tryf.ntmps40
    go_wp2
    go_ret
    exact ⟨sg_ret (sg_uhi (by unfold cls100; omega) (by first | rfl | (simp; done) | (simp; omega))), rfl⟩
  · skip
    have p0 : decide ((48 : Int) ≤ ch) = true := by simp; omega
    have q0 : decide (ch ≤ (57 : Int)) = false := by simp; omega
    go_enter Tryf.func40, Tryf.ntmps40
    go_wp2
    go_ret
    exact ⟨sg_ret (sg_ulo (by unfold cls100; omega) (by first | rfl | (simp; done) | (simp; omega))), rfl⟩
set_option maxRecDepth 100000 in
set_option maxHeartbeats 1000000 in
theorem zsing_76 (ch : Int) (h0 : 0 ≤ ch) (w : World) :
    Calls Tryf.prog 40 #[.int .i64 76, .int .i64 ch] w fun e w' => e = .returned (.bool (!decide (cls108 ch))) ∧ w = w' := by
  rcases (show (0 ≤ ch ∧ ch ≤ 96) ∨ (97 ≤ ch ∧ ch ≤ 122) ∨ 123 ≤ ch by omega) with ⟨h, h'⟩ | ⟨h, h'⟩ | h
  · skip
    have p0 : decide ((97 : Int) ≤ ch) = false := by simp; omega
    have q0 : decide (ch ≤ (122 : Int)) = true := by simp; omega
    go_enter Tryf.func40, Tryf.ntmps40
    go_wp2
    go_ret
    exact ⟨sg_ret (sg_ulo (by unfold cls108; omega) (by first | rfl | (simp; done) | (simp; omega))), rfl⟩
  · skip
    have p0 : decide ((97 : Int) ≤ ch) = true := by simp; omega
    have q0 : decide (ch ≤ (122 : Int)) = true := by simp; omega
    go_enter Tryf.func40, Tryf.ntmps40
    go_wp2
    go_ret
    exact ⟨sg_ret (sg_uhi (by unfold cls108; omega) (by first | rfl | (simp; done) | (simp; omega))), rfl⟩
  · skip
    have p0 : decide ((97 : Int) ≤ ch) = true := by simp; omega
    have q0 : decide (ch ≤ (122 : Int)) = false := by simp; omega
    go_enter Tryf.func40, Tryf.ntmps40
    go_wp2
    go_ret
    exact ⟨sg_ret (sg_ulo (by unfold cls108; omega) (by first | rfl | (simp; done) | (simp; omega))), rfl⟩
set_option maxRecDepth 100000 in
set_option maxHeartbeats 1000000 in
theorem zsing_80 (ch : Int) (h0 : 0 ≤ ch) (w : World) :
    Calls Tryf.prog 40 #[.int .i64 80, .int .i64 ch] w fun e w' => e = .returned (.bool (!decide (cls112 ch))) ∧ w = w' := by
  rcases (show (0 ≤ ch ∧ ch ≤ 32) ∨ (33 ≤ ch ∧ ch ≤ 47) ∨ (48 ≤ ch ∧ ch ≤ 57) ∨ (58 ≤ ch ∧ ch ≤ 64) ∨ (65 ≤ ch ∧ ch ≤ 90) ∨ (91 ≤ ch ∧ ch ≤ 96) ∨ (97 ≤ ch ∧ ch ≤ 122) ∨ (123 ≤ ch ∧ ch ≤ 126) ∨ 127 ≤ ch by omega) with ⟨h, h'⟩ | ⟨h, h'⟩ | ⟨h, h'⟩ | ⟨h, h'⟩ | ⟨h, h'⟩ | ⟨h, h'⟩ | ⟨h, h'⟩ | ⟨h, h'⟩ | h
  · skip
    have p0 : decide ((33 : Int) ≤ ch) = false := by simp; omega
    have q0 : decide (ch ≤ (47 : Int)) = true := by simp; omega
    have p1 : decide ((58 : Int) ≤ ch) = false := by simp; omega
    have q1 : decide (ch ≤ (64 : Int)) = true := by simp; omega
    have p2 : decide ((91 : Int) ≤ ch) = false := by simp; omega
    have q2 : decide (ch ≤ (96 : Int)) = true := by simp; omega
    have p3 : decide ((123 : Int) ≤ ch) = false := by simp; omega
    have q3 : decide (ch ≤ (126 : Int)) = true := by simp; omega
    go_enter Tryf.func40, Tryf.ntmps40
    go_wp2
    go_ret
    exact ⟨sg_ret (sg_ulo (by unfold cls112; omega) (by first | rfl | (simp; done) | (simp; omega))), rfl⟩
  · skip
    have p0 : decide ((33 : Int) ≤ ch) = true := by simp; omega
    have q0 : decide (ch ≤ (47 : Int)) = true := by simp; omega
    have p1 : decide ((58 : Int) ≤ ch) = false := by simp; omega
    have q1 : decide (ch ≤ (64 : Int)) = true := by simp; omega
    have p2 : decide ((91 : Int) ≤ ch) = false := by simp; omega
    have q2 : decide (ch ≤ (96 : Int)) = true := by simp; omega
    have p3 : decide ((123 : Int) ≤ ch) = false := by simp; omega
    have q3 : decide (ch ≤ (126 : Int)) = true := by simp; omega
    go_enter Tryf.func40, Tryf.ntmps40
    go_wp2
    go_ret
    exact ⟨sg_ret (sg_uhi (by unfold cls112; omega) (by first | rfl | (simp; done) | (simp; omega))), rfl⟩
  · skip
    have p0 : decide ((33 : Int) ≤ ch) = true := by simp; omega
    have q0 : decide (ch ≤ (47 : Int)) = false := by simp; omega
    have p1 : decide ((58 : Int) ≤ ch) = false := by simp; omega
    have q1 : decide (ch ≤ (64 : Int)) = true := by simp; omega
    have p2 : decide ((91 : Int) ≤ ch) = false := by simp; omega
    have q2 : decide (ch ≤ (96 : Int)) = true := by simp; omega
    have p3 : decide ((123 : Int) ≤ ch) = false := by simp; omega
    have q3 : decide (ch ≤ (126 : Int)) = true := by simp; omega
    go_enter Tryf.func40, Tryf.ntmps40
    go_wp2
    go_ret
    exact ⟨sg_ret (sg_ulo (by unfold cls112; omega) (by first | rfl | (simp; done) | (simp; omega))), rfl⟩
  · skip
    have p0 : decide ((33 : Int) ≤ ch) = true := by simp; omega
    have q0 : decide (ch ≤ (47 : Int)) = false := by simp; omega
    have p1 : decide ((58 : Int) ≤ ch) = true := by simp; omega
    have q1 : decide (ch ≤ (64 : Int)) = true := by simp; omega
    have p2 : decide ((91 : Int) ≤ ch) = false := by simp; omega
    have q2 : decide (ch ≤ (96 : Int)) = true := by simp; omega
    have p3 : decide ((123 : Int) ≤ ch) = false := by simp; omega
    have q3 : decide (ch ≤ (126 : Int)) = true := by simp; omega
    go_enter Tryf.func40, Tryf.ntmps40
    go_wp2
    go_ret
    exact ⟨sg_ret (sg_uhi (by unfold cls112; omega) (by first | rfl | (simp; done) | (simp; omega))), rfl⟩
  · skip
    have p0 : decide ((33 : Int) ≤ ch) = true := by simp; omega
    have q0 : decide (ch ≤ (47 : Int)) = false := by simp; omega
    have p1 : decide ((58 : Int) ≤ ch) = true := by simp; omega
    have q1 : decide (ch ≤ (64 : Int)) = false := by simp; omega
    have p2 : decide ((91 : Int) ≤ ch) = false := by simp; omega
    have q2 : decide (ch ≤ (96 : Int)) = true := by simp; omega
    have p3 : decide ((123 : Int) ≤ ch) = false := by simp; omega
    have q3 : decide (ch ≤ (126 : Int)) = true := by simp; omega
    go_enter Tryf.func40, Tryf.ntmps40
    go_wp2
    go_ret
    exact ⟨sg_ret (sg_ulo (by unfold cls112; omega) (by first | rfl | (simp; done) | (simp; omega))), rfl⟩
  · skip
    have p0 : decide ((33 : Int) ≤ ch) = true := by simp; omega
    have q0 : decide (ch ≤ (47 : Int)) = false := by simp; omega
    have p1 : decide ((58 : Int) ≤ ch) = true := by simp; omega
    have q1 : decide (ch ≤ (64 : Int)) = false := by simp; omega
    have p2 : decide ((91 : Int) ≤ ch) = true := by simp; omega
    have q2 : decide (ch ≤ (96 : Int)) = true := by simp; omega
    have p3 : decide ((123 : Int) ≤ ch) = false := by simp; omega
    have q3 : decide (ch ≤ (126 : Int)) = true := by simp; omega
    go_enter Tryf.func40, Tryf.ntmps40
    go_wp2
    go_ret
    exact ⟨sg_ret (sg_uhi (by unfold cls112; omega) (by first | rfl | (simp; done) | (simp; omega))), rfl⟩
  · skip
    have p0 : decide ((33 : Int) ≤ ch) = true := by simp; omega
    have q0 : decide (ch ≤ (47 : Int)) = false := by simp; omega
    have p1 : decide ((58 : Int) ≤ ch) = true := by simp; omega
    have q1 : decide (ch ≤ (64 : Int)) = false := by simp; omega
    have p2 : decide ((91 : Int) ≤ ch) = true := by simp; omega
    have q2 : decide (ch ≤ (96 : Int)) = false := by simp; omega
    have p3 : decide ((123 : Int) ≤ ch) = false := by simp; omega
    have q3 : decide (ch ≤ (126 : Int)) = true := by simp; omega
    go_enter Tryf.func40, Tryf.ntmps40
    go_wp2
    go_ret
    exact ⟨sg_ret (sg_ulo (by unfold cls112; omega) (by first | rfl | (simp; done) | (simp; omega))), rfl⟩
  · skip
    have p0 : decide ((33 : Int) ≤ ch) = true := by simp; omega
    have q0 : decide (ch ≤ (47 : Int)) = false := by simp; omega
    have p1 : decide ((58 : Int) ≤ ch) = true := by simp; omega
    have q1 : decide (ch ≤ (64 : Int)) = false := by simp; omega
    have p2 : decide ((91 : Int) ≤ ch) = true := by simp; omega
    have q2 : decide (ch ≤ (96 : Int)) = false := by simp; omega
    have p3 : decide ((123 : Int) ≤ ch) = true := by simp; omega
    have q3 : decide (ch ≤ (126 : Int)) = true := by simp; omega
    go_enter Tryf.func40, Tryf.ntmps40
    go_wp2
    go_ret
    exact ⟨sg_ret (sg_uhi (by unfold cls112; omega) (by first | rfl | (simp; done) | (simp; omega))), rfl⟩
  · skip
    have p0 : decide ((33 : Int) ≤ ch) = true := by simp; omega
    have q0 : decide (ch ≤ (47 : Int)) = false := by simp; omega
    have p1 : decide ((58 : Int) ≤ ch) = true := by simp; omega
    have q1 : decide (ch ≤ (64 : Int)) = false := by simp; omega
    have p2 : decide ((91 : Int) ≤ ch) = true := by simp; omega
    have q2 : decide (ch ≤ (96 : Int)) = false := by simp; omega
    have p3 : decide ((123 : Int) ≤ ch) = true := by simp; omega
    have q3 : decide (ch ≤ (126 : Int)) = false := by simp; omega
    go_enter Tryf.func40, Tryf.ntmps40
    go_wp2
    go_ret
    exact ⟨sg_ret (sg_ulo (by unfold cls112; omega) (by first | rfl | (simp; done) | (simp; omega))), rfl⟩
set_option maxRecDepth 100000 in
set_option maxHeartbeats 1000000 in
theorem zsing_83 (ch : Int) (h0 : 0 ≤ ch) (w : World) :
    Calls Tryf.prog 40 #[.int .i64 83, .int .i64 ch] w fun e w' => e = .returned (.bool (!decide (cls115 ch))) ∧ w = w' := by
  rcases (show (0 ≤ ch ∧ ch ≤ 8) ∨ (9 ≤ ch ∧ ch ≤ 13) ∨ (14 ≤ ch ∧ ch ≤ 31) ∨ ch = 32 ∨ 33 ≤ ch by omega) with ⟨h, h'⟩ | ⟨h, h'⟩ | ⟨h, h'⟩ | rfl | h
  · skip
    have p0 : decide ((9 : Int) ≤ ch) = false := by simp; omega
    have q0 : decide (ch ≤ (13 : Int)) = true := by simp; omega
    have e1 : (ch == 32) = false := by simp; omega
    go_enter Tryf.func40, Tryf.ntmps40
    go_wp2
    go_ret
    exact ⟨sg_ret (sg_ulo (by unfold cls115; omega) (by first | rfl | (simp; done) | (simp; omega))), rfl⟩
  · skip
    have p0 : decide ((9 : Int) ≤ ch) = true := by simp; omega
    have q0 : decide (ch ≤ (13 : Int)) = true := by simp; omega
    have e1 : (ch == 32) = false := by simp; omega
    go_enter Tryf.func40, Tryf.ntmps40
    go_wp2
    go_ret
    exact ⟨sg_ret (sg_uhi (by unfold cls115; omega) (by first | rfl | (simp; done) | (simp; omega))), rfl⟩
  · skip
    have p0 : decide ((9 : Int) ≤ ch) = true := by simp; omega
    have q0 : decide (ch ≤ (13 : Int)) = false := by simp; omega
    have e1 : (ch == 32) = false := by simp; omega
    go_enter Tryf.func40, Tryf.ntmps40
    go_wp2
    go_ret
    exact ⟨sg_ret (sg_ulo (by unfold cls115; omega) (by first | rfl | (simp; done) | (simp; omega))), rfl⟩
  · skip
    go_enter Tryf.func40, Tryf.ntmps40
    go_wp2
    go_ret
    exact ⟨sg_ret (sg_uhi (by unfold cls115; omega) (by first | rfl | (simp; done) | (simp; omega))), rfl⟩
  · skip
    have p0 : decide ((9 : Int) ≤ ch) = true := by simp; omega
    have q0 : decide (ch ≤ (13 : Int)) = false := by simp; omega
    have e1 : (ch == 32) = false := by simp; omega
    go_enter Tryf.func40, Tryf.ntmps40
    go_wp2
    go_ret
    exact ⟨sg_ret (sg_ulo (by unfold cls115; omega) (by first | rfl | (simp; done) | (simp; omega))), rfl⟩
set_option maxRecDepth 100000 in
set_option maxHeartbeats 1000000 in
theorem zsing_85 (ch : Int) (h0 : 0 ≤ ch) (w : World) :
    Calls Tryf.prog 40 #[.int .i64 85, .int .i64 ch] w fun e w' => e = .returned (.bool (!decide (cls117 ch))) ∧ w = w' := by
  rcases (show (0 ≤ ch ∧ ch ≤ 64) ∨ (65 ≤ ch ∧ ch ≤ 90) ∨ 91 ≤ ch by omega) with ⟨h, h'⟩ | ⟨h, h'⟩ | h
  · skip
    have p0 : decide ((65 : Int) ≤ ch) = false := by simp; omega
    have q0 : decide (ch ≤ (90 : Int)) = true := by simp; omega
    go_enter Tryf.func40, Tryf.ntmps40
    go_wp2
    go_ret
    exact ⟨sg_ret (sg_ulo (by unfold cls117; omega) (by first | rfl | (simp; done) | (simp; omega))), rfl⟩
  · skip
    have p0 : decide ((65 : Int) ≤ ch) = true := by simp; omega
    have q0 : decide (ch ≤ (90 : Int)) = true := by simp; omega
    go_enter Tryf.func40, Tryf.ntmps40
    go_wp2
    go_ret
    exact ⟨sg_ret (sg_uhi (by unfold cls117; omega) (by first | rfl | (simp; done) | (simp; omega))), rfl⟩
  · skip
    have p0 : decide ((65 : Int) ≤ ch) = true := by simp; omega
    have q0 : decide (ch ≤ (90 : Int)) = false := by simp; omega
    go_enter Tryf.func40, Tryf.ntmps40
    go_wp2
    go_ret
    exact ⟨sg_ret (sg_ulo (by unfold cls117; omega) (by first | rfl | (simp; done) | (simp; omega))), rfl⟩
set_option maxRecDepth 100000 in
set_option maxHeartbeats 1000000 in
theorem zsing_87 (ch : Int) (h0 : 0 ≤ ch) (w : World) :
    Calls Tryf.prog 40 #[.int .i64 87, .int .i64 ch] w fun e w' => e = .returned (.bool (!decide (cls119 ch))) ∧ w = w' := by
  rcases (show (0 ≤ ch ∧ ch ≤ 47) ∨ (48 ≤ ch ∧ ch ≤ 57) ∨ (58 ≤ ch ∧ ch ≤ 64) ∨ (65 ≤ ch ∧ ch ≤ 90) ∨ (91 ≤ ch ∧ ch ≤ 96) ∨ (97 ≤ ch ∧ ch ≤ 122) ∨ 123 ≤ ch by omega) with ⟨h, h'⟩ | ⟨h, h'⟩ | ⟨h, h'⟩ | ⟨h, h'⟩ | ⟨h, h'⟩ | ⟨h, h'⟩ | h
  · skip
    have p0 : decide ((48 : Int) ≤ ch) = false := by simp; omega
    have q0 : decide (ch ≤ (57 : Int)) = true := by simp; omega
    have p1 : decide ((65 : Int) ≤ ch) = false := by simp; omega
    have q1 : decide (ch ≤ (90 : Int)) = true := by simp; omega
    have p2 : decide ((97 : Int) ≤ ch) = false := by simp; omega
    have q2 : decide (ch ≤ (122 : Int)) = true := by simp; omega
    go_enter Tryf.func40, Tryf.ntmps40
    go_wp2
    go_ret
    exact ⟨sg_ret (sg_ulo (by unfold cls119; omega) (by first | rfl | (simp; done) | (simp; omega))), rfl⟩
  · skip
    have p0 : decide ((48 : Int) ≤ ch) = true := by simp; omega
    have q0 : decide (ch ≤ (57 : Int)) = true := by simp; omega
    have p1 : decide ((65 : Int) ≤ ch) = false := by simp; omega
    have q1 : decide (ch ≤ (90 : Int)) = true := by simp; omega
    have p2 : decide ((97 : Int) ≤ ch) = false := by simp; omega
    have q2 : decide (ch ≤ (122 : Int)) = true := by simp; omega
    go_enter Tryf.func40, Tryf.ntmps40
    go_wp2
    go_ret
    exact ⟨sg_ret (sg_uhi (by unfold cls119; omega) (by first | rfl | (simp; done) | (simp; omega))), rfl⟩
  · skip
    have p0 : decide ((48 : Int) ≤ ch) = true := by simp; omega
    have q0 : decide (ch ≤ (57 : Int)) = false := by simp; omega
    have p1 : decide ((65 : Int) ≤ ch) = false := by simp; omega
    have q1 : decide (ch ≤ (90 : Int)) = true := by simp; omega
    have p2 : decide ((97 : Int) ≤ ch) = false := by simp; omega
    have q2 : decide (ch ≤ (122 : Int)) = true := by simp; omega
    go_enter Tryf.func40, Tryf.ntmps40
    go_wp2
    go_ret
    exact ⟨sg_ret (sg_ulo (by unfold cls119; omega) (by first | rfl | (simp; done) | (simp; omega))), rfl⟩
  · skip
    have p0 : decide ((48 : Int) ≤ ch) = true := by simp; omega
    have q0 : decide (ch ≤ (57 : Int)) = false := by simp; omega
    have p1 : decide ((65 : Int) ≤ ch) = true := by simp; omega
    have q1 : decide (ch ≤ (90 : Int)) = true := by simp; omega
    have p2 : decide ((97 : Int) ≤ ch) = false := by simp; omega
    have q2 : decide (ch ≤ (122 : Int)) = true := by simp; omega
    go_enter Tryf.func40, Tryf.ntmps40
    go_wp2
    go_ret
    exact ⟨sg_ret (sg_uhi (by unfold cls119; omega) (by first | rfl | (simp; done) | (simp; omega))), rfl⟩
  · skip
    have p0 : decide ((48 : Int) ≤ ch) = true := by simp; omega
    have q0 : decide (ch ≤ (57 : Int)) = false := by simp; omega
    have p1 : decide ((65 : Int) ≤ ch) = true := by simp; omega
    have q1 : decide (ch ≤ (90 : Int)) = false := by simp; omega
    have p2 : decide ((97 : Int) ≤ ch) = false := by simp; omega
    have q2 : decide (ch ≤ (122 : Int)) = true := by simp; omega
    go_enter Tryf.func40, Tryf.ntmps40
    go_wp2
    go_ret
    exact ⟨sg_ret (sg_ulo (by unfold cls119; omega) (by first | rfl | (simp; done) | (simp; omega))), rfl⟩
  · skip
    have p0 : decide ((48 : Int) ≤ ch) = true := by simp; omega
    have q0 : decide (ch ≤ (57 : Int)) = false := by simp; omega
    have p1 : decide ((65 : Int) ≤ ch) = true := by simp; omega
    have q1 : decide (ch ≤ (90 : Int)) = false := by simp; omega
    have p2 : decide ((97 : Int) ≤ ch) = true := by simp; omega
    have q2 : decide (ch ≤ (122 : Int)) = true := by simp; omega
    go_enter Tryf.func40, Tryf.ntmps40
    go_wp2
    go_ret
    exact ⟨sg_ret (sg_uhi (by unfold cls119; omega) (by first | rfl | (simp; done) | (simp; omega))), rfl⟩
  · skip
    have p0 : decide ((48 : Int) ≤ ch) = true := by simp; omega
    have q0 : decide (ch ≤ (57 : Int)) = false := by simp; omega
    have p1 : decide ((65 : Int) ≤ ch) = true := by simp; omega
    have q1 : decide (ch ≤ (90 : Int)) = false := by simp; omega
    have p2 : decide ((97 : Int) ≤ ch) = true := by simp; omega
    have q2 : decide (ch ≤ (122 : Int)) = false := by simp; omega
    go_enter Tryf.func40, Tryf.ntmps40
    go_wp2
    go_ret
    exact ⟨sg_ret (sg_ulo (by unfold cls119; omega) (by first | rfl | (simp; done) | (simp; omega))), rfl⟩
set_option maxRecDepth 100000 in
set_option maxHeartbeats 1000000 in
theorem zsing_88 (ch : Int) (h0 : 0 ≤ ch) (w : World) :
    Calls Tryf.prog 40 #[.int .i64 88, .int .i64 ch] w fun e w' => e = .returned (.bool (!decide (cls120 ch))) ∧ w = w' := by
  rcases (show (0 ≤ ch ∧ ch ≤ 47) ∨ (48 ≤ ch ∧ ch ≤ 57) ∨ (58 ≤ ch ∧ ch ≤ 64) ∨ (65 ≤ ch ∧ ch ≤ 70) ∨ (71 ≤ ch ∧ ch ≤ 96) ∨ (97 ≤ ch ∧ ch ≤ 102) ∨ 103 ≤ ch by omega) with ⟨h, h'⟩ | ⟨h, h'⟩ | ⟨h, h'⟩ | ⟨h, h'⟩ | ⟨h, h'⟩ | ⟨h, h'⟩ | h
  · skip
    have p0 : decide ((48 : Int) ≤ ch) = false := by simp; omega
    have q0 : decide (ch ≤ (57 : Int)) = true := by simp; omega
    have p1 : decide ((65 : Int) ≤ ch) = false := by simp; omega
    have q1 : decide (ch ≤ (70 : Int)) = true := by simp; omega
    have p2 : decide ((97 : Int) ≤ ch) = false := by simp; omega
    have q2 : decide (ch ≤ (102 : Int)) = true := by simp; omega
    go_enter Tryf.func40, Tryf.ntmps40
    go_wp2
    go_ret
    exact ⟨sg_ret (sg_ulo (by unfold cls120; omega) (by first | rfl | (simp; done) | (simp; omega))), rfl⟩
  · skip
    have p0 : decide ((48 : Int) ≤ ch) = true := by simp; omega
    have q0 : decide (ch ≤ (57 : Int)) = true := by simp; omega
    have p1 : decide ((65 : Int) ≤ ch) = false := by simp; omega
    have q1 : decide (ch ≤ (70 : Int)) = true := by simp; omega
    have p2 : decide ((97 : Int) ≤ ch) = false := by simp; omega
    have q2 : decide (ch ≤ (102 : Int)) = true := by simp; omega
    go_enter Tryf.func40, Tryf.ntmps40
    go_wp2
    go_ret
    exact ⟨sg_ret (sg_uhi (by unfold cls120; omega) (by first | rfl | (simp; done) | (simp; omega))), rfl⟩
  · skip
    have p0 : decide ((48 : Int) ≤ ch) = true := by simp; omega
    have q0 : decide (ch ≤ (57 : Int)) = false := by simp; omega
    have p1 : decide ((65 : Int) ≤ ch) = false := by simp; omega
    have q1 : decide (ch ≤ (70 : Int)) = true := by simp; omega
    have p2 : decide ((97 : Int) ≤ ch) = false := by simp; omega
    have q2 : decide (ch ≤ (102 : Int)) = true := by simp; omega
    go_enter Tryf.func40, Tryf.ntmps40
    go_wp2
    go_ret
    exact ⟨sg_ret (sg_ulo (by unfold cls120; omega) (by first | rfl | (simp; done) | (simp; omega))), rfl⟩
  · skip
    have p0 : decide ((48 : Int) ≤ ch) = true := by simp; omega
    have q0 : decide (ch ≤ (57 : Int)) = false := by simp; omega
    have p1 : decide ((65 : Int) ≤ ch) = true := by simp; omega
    have q1 : decide (ch ≤ (70 : Int)) = true := by simp; omega
    have p2 : decide ((97 : Int) ≤ ch) = false := by simp; omega
    have q2 : decide (ch ≤ (102 : Int)) = true := by simp; omega
    go_enter Tryf.func40, Tryf.ntmps40
    go_wp2
    go_ret
    exact ⟨sg_ret (sg_uhi (by unfold cls120; omega) (by first | rfl | (simp; done) | (simp; omega))), rfl⟩
  · skip
    have p0 : decide ((48 : Int) ≤ ch) = true := by simp; omega
    have q0 : decide (ch ≤ (57 : Int)) = false := by simp; omega
    have p1 : decide ((65 : Int) ≤ ch) = true := by simp; omega
    have q1 : decide (ch ≤ (70 : Int)) = false := by simp; omega
    have p2 : decide ((97 : Int) ≤ ch) = false := by simp; omega
    have q2 : decide (ch ≤ (102 : Int)) = true := by simp; omega
    go_enter Tryf.func40, Tryf.ntmps40
    go_wp2
    go_ret
    exact ⟨sg_ret (sg_ulo (by unfold cls120; omega) (by first | rfl | (simp; done) | (simp; omega))), rfl⟩
  · skip
    have p0 : decide ((48 : Int) ≤ ch) = true := by simp; omega
    have q0 : decide (ch ≤ (57 : Int)) = false := by simp; omega
    have p1 : decide ((65 : Int) ≤ ch) = true := by simp; omega
    have q1 : decide (ch ≤ (70 : Int)) = false := by simp; omega
    have p2 : decide ((97 : Int) ≤ ch) = true := by simp; omega
    have q2 : decide (ch ≤ (102 : Int)) = true := by simp; omega
    go_enter Tryf.func40, Tryf.ntmps40
    go_wp2
    go_ret
    exact ⟨sg_ret (sg_uhi (by unfold cls120; omega) (by first | rfl | (simp; done) | (simp; omega))), rfl⟩
  · skip
    have p0 : decide ((48 : Int) ≤ ch) = true := by simp; omega
    have q0 : decide (ch ≤ (57 : Int)) = false := by simp; omega
    have p1 : decide ((65 : Int) ≤ ch) = true := by simp; omega
    have q1 : decide (ch ≤ (70 : Int)) = false := by simp; omega
    have p2 : decide ((97 : Int) ≤ ch) = true := by simp; omega
    have q2 : decide (ch ≤ (102 : Int)) = false := by simp; omega
    go_enter Tryf.func40, Tryf.ntmps40
    go_wp2
    go_ret
    exact ⟨sg_ret (sg_ulo (by unfold cls120; omega) (by first | rfl | (simp; done) | (simp; omega))), rfl⟩
set_option maxRecDepth 100000 in
set_option maxHeartbeats 1000000 in
theorem zsing_90 (ch : Int) (h0 : 0 ≤ ch) (w : World) :
    Calls Tryf.prog 40 #[.int .i64 90, .int .i64 ch] w fun e w' => e = .returned (.bool (!decide (cls122 ch))) ∧ w = w' := by
  rcases (show ch = 0 ∨ 1 ≤ ch by omega) with rfl | h
  · skip
    go_enter Tryf.func40, Tryf.ntmps40
    go_wp2
    go_ret
    exact ⟨sg_ret (sg_uhi (by unfold cls122; omega) (by first | rfl | (simp; done) | (simp; omega))), rfl⟩
  · skip
    have e0 : (ch == 0) = false := by simp; omega
    go_enter Tryf.func40, Tryf.ntmps40
    go_wp2
    go_ret
    exact ⟨sg_ret (sg_ulo (by unfold cls122; omega) (by first | rfl | (simp; done) | (simp; omega))), rfl⟩



set_option maxRecDepth 100000 in
set_option maxHeartbeats 1000000 in
theorem zsing_other (cl ch : Int) (w : World) (h0 : cl ≠ 65 ∧ cl ≠ 67 ∧ cl ≠ 68 ∧ cl ≠ 76 ∧ cl ≠ 80 ∧ cl ≠ 83 ∧ cl ≠ 85 ∧ cl ≠ 87 ∧ cl ≠ 88 ∧ cl ≠ 90 ∧ cl ≠ 97 ∧ cl ≠ 99 ∧ cl ≠ 100 ∧ cl ≠ 108 ∧ cl ≠ 112 ∧ cl ≠ 115 ∧ cl ≠ 117 ∧ cl ≠ 119 ∧ cl ≠ 120 ∧ cl ≠ 122) :
    Calls Tryf.prog 40 #[.int .i64 cl, .int .i64 ch] w fun e w' => e = .returned (.bool (decide (ch = cl))) ∧ w = w' := by
  obtain ⟨n65, n67, n68, n76, n80, n83, n85, n87, n88, n90, n97, n99, n100, n108, n112, n115, n117, n119, n120, n122⟩ := h0
  by_cases he : ch = cl
  · subst he
    go_enter Tryf.func40, Tryf.ntmps40
    go_wp2
    go_ret
    exact ⟨sg_ret (by simp), rfl⟩
  · have he' : (ch == cl) = false := by simpa using he
    go_enter Tryf.func40, Tryf.ntmps40
    go_wp2
    go_ret
    exact ⟨sg_ret (by simp [he]), rfl⟩
theorem zsing_any (cl ch : Int) (h0 : 0 ≤ ch) (w : World) :
    Calls Tryf.prog 40 #[.int .i64 cl, .int .i64 ch] w fun e w' => e = .returned (.bool (singB cl ch)) ∧ w = w' := by
  by_cases e97 : cl = 97
  · subst e97; exact zsing_97 ch h0 w
  by_cases e65 : cl = 65
  · subst e65; exact zsing_65 ch h0 w
  by_cases e99 : cl = 99
  · subst e99; exact zsing_99 ch h0 w
  by_cases e67 : cl = 67
  · subst e67; exact zsing_67 ch h0 w
  by_cases e100 : cl = 100
  · subst e100; exact zsing_100 ch h0 w
  by_cases e68 : cl = 68
  · subst e68; exact zsing_68 ch h0 w
  by_cases e108 : cl = 108
  · subst e108; exact zsing_108 ch h0 w
  by_cases e76 : cl = 76
  · subst e76; exact zsing_76 ch h0 w
  by_cases e112 : cl = 112
  · subst e112; exact zsing_112 ch h0 w
  by_cases e80 : cl = 80
  · subst e80; exact zsing_80 ch h0 w
  by_cases e115 : cl = 115
  · subst e115; exact zsing_115 ch h0 w
  by_cases e83 : cl = 83
  · subst e83; exact zsing_83 ch h0 w
  by_cases e117 : cl = 117
  · subst e117; exact zsing_117 ch h0 w
  by_cases e85 : cl = 85
  · subst e85; exact zsing_85 ch h0 w
  by_cases e119 : cl = 119
  · subst e119; exact zsing_119 ch h0 w
  by_cases e87 : cl = 87
  · subst e87; exact zsing_87 ch h0 w
  by_cases e120 : cl = 120
  · subst e120; exact zsing_120 ch h0 w
  by_cases e88 : cl = 88
  · subst e88; exact zsing_88 ch h0 w
  by_cases e122 : cl = 122
  · subst e122; exact zsing_122 ch h0 w
  by_cases e90 : cl = 90
  · subst e90; exact zsing_90 ch h0 w
  have hs : singB cl ch = decide (ch = cl) := by
    have h1 : isLow cl = false := by simp only [isLow, decide_eq_false_iff_not]; omega
    have h2 : isLow (cl + 32) = false := by simp only [isLow, decide_eq_false_iff_not]; omega
    simp [singB, h1, h2]
  rw [hs]
  exact zsing_other cl ch w ⟨e65, e67, e68, e76, e80, e83, e85, e87, e88, e90, e97, e99, e100, e108, e112, e115, e117, e119, e120, e122⟩


end Go.Proofs.YtcfhhcjcnafcjaaFmt
