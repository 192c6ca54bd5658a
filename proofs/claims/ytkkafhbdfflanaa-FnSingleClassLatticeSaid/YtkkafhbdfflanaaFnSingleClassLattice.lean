/-
  The given statement on FnSingleClassLattice: for every input the law returns true and leaves its arguments as they were. No condition beyond the statement's own.
  The frame was written by the kit's proof-skeleton.
-/
import Derived.Test.YtkkafhbdfflanaaCls2
import Derived.Test.YtkkafhbdfflanaaRows
import Derived.WalkKit
import Derived.ProofKit
import Derived.OpenShut
import Derived.ShutString
namespace Go.Proofs.Ytkkafhbdfflanaa.fnSingleClassLattice
open Go.ChangeShapes Go.WideShapes Go.ChangeAt Go.RowKit
open Go.ChangeMaps (open_string shut_string)
set_option linter.unusedVariables false      -- a walk need not use every 'w<i>' (that an integer argument fits its kind)

theorem own : ownKnob Try.prog.godebug = none := by kernel_rfl

set_option maxHeartbeats 4000000
set_option maxRecDepth 100000
theorem s_yes {k c : Int} {p : Prop} [Decidable p] (h : singB k c = decide p) (hp : p) : Hid (singB k c = true) := h.trans (decide_eq_true hp)
theorem s_no {k c : Int} {p : Prop} [Decidable p] (h : singB k c = decide p) (hp : ¬ p) : Hid (singB k c = false) := h.trans (decide_eq_false hp)

/-! ### STEP 1: THE WALK: the Go text returns true. 'Grown w w'': the world has at most new blocks (Derived/RowKit3.lean). Part the cases AHEAD of 'go_enter' where a test parts the walk; take each callee by a contract of your own. -/
theorem walk (a0 : Int) (w0 : (Lit.int .i64 a0).wf = true) (w : World) :
    Calls Try.prog 6 #[.int .i64 a0] w fun e w' => e = .returned (.bool true) ∧ Grown w w' := by
  rcases (show a0 ≤ -1 ∨ a0 = 0 ∨ (1 ≤ a0 ∧ a0 ≤ 8) ∨ (9 ≤ a0 ∧ a0 ≤ 13) ∨ (14 ≤ a0 ∧ a0 ≤ 31) ∨ a0 = 32 ∨ (33 ≤ a0 ∧ a0 ≤ 47) ∨ (48 ≤ a0 ∧ a0 ≤ 57) ∨ (58 ≤ a0 ∧ a0 ≤ 64) ∨ (65 ≤ a0 ∧ a0 ≤ 70) ∨ (71 ≤ a0 ∧ a0 ≤ 90) ∨ (91 ≤ a0 ∧ a0 ≤ 96) ∨ (97 ≤ a0 ∧ a0 ≤ 102) ∨ (103 ≤ a0 ∧ a0 ≤ 122) ∨ (123 ≤ a0 ∧ a0 ≤ 126) ∨ a0 = 127 ∨ 128 ≤ a0 by omega) with b1 | rfl | ⟨b1, b2⟩ | ⟨b1, b2⟩ | ⟨b1, b2⟩ | rfl | ⟨b1, b2⟩ | ⟨b1, b2⟩ | ⟨b1, b2⟩ | ⟨b1, b2⟩ | ⟨b1, b2⟩ | ⟨b1, b2⟩ | ⟨b1, b2⟩ | ⟨b1, b2⟩ | ⟨b1, b2⟩ | rfl | b1
  · skip
    have H97 := s_no (k := 97) (c := a0) (p := cls97 a0) rfl (by unfold cls97; omega)
    have H99 := s_no (k := 99) (c := a0) (p := cls99 a0) rfl (by unfold cls99; omega)
    have H100 := s_no (k := 100) (c := a0) (p := cls100 a0) rfl (by unfold cls100; omega)
    have H108 := s_no (k := 108) (c := a0) (p := cls108 a0) rfl (by unfold cls108; omega)
    have H112 := s_no (k := 112) (c := a0) (p := cls112 a0) rfl (by unfold cls112; omega)
    have H115 := s_no (k := 115) (c := a0) (p := cls115 a0) rfl (by unfold cls115; omega)
    have H117 := s_no (k := 117) (c := a0) (p := cls117 a0) rfl (by unfold cls117; omega)
    have H119 := s_no (k := 119) (c := a0) (p := cls119 a0) rfl (by unfold cls119; omega)
    have H120 := s_no (k := 120) (c := a0) (p := cls120 a0) rfl (by unfold cls120; omega)
    have H122 := s_no (k := 122) (c := a0) (p := cls122 a0) rfl (by unfold cls122; omega)
    have x1 : decide (33 ≤ a0) = false := by simp; omega
    have x2 : decide (a0 ≤ 126) = true := by simp; omega
    have x3 : decide (a0 < 0) = true := by simp; omega
    have x4 : decide (127 < a0) = false := by simp; omega
    have x5 : (a0 == 0) = false := by simp; omega
    have x6 : (a0 != 32) = true := by simp; omega
    go_enter Try.func6, Try.ntmps6
    go_wp2_with (first | (go_at_call 8; refine (zz_is _ _ _ _ (by assumption)).mono ?_; rintro e w' ⟨rfl, c, T, rfl⟩) | go_in)
    go_ret
    exact ⟨rfl, by repeat (first | exact Grown.refl _ | apply Grown.drew | apply Grown.alloc)⟩
  · skip
    have H97 := s_no (k := 97) (c := 0) (p := cls97 0) rfl (by unfold cls97; omega)
    have H99 := s_yes (k := 99) (c := 0) (p := cls99 0) rfl (by unfold cls99; omega)
    have H100 := s_no (k := 100) (c := 0) (p := cls100 0) rfl (by unfold cls100; omega)
    have H108 := s_no (k := 108) (c := 0) (p := cls108 0) rfl (by unfold cls108; omega)
    have H112 := s_no (k := 112) (c := 0) (p := cls112 0) rfl (by unfold cls112; omega)
    have H115 := s_no (k := 115) (c := 0) (p := cls115 0) rfl (by unfold cls115; omega)
    have H117 := s_no (k := 117) (c := 0) (p := cls117 0) rfl (by unfold cls117; omega)
    have H119 := s_no (k := 119) (c := 0) (p := cls119 0) rfl (by unfold cls119; omega)
    have H120 := s_no (k := 120) (c := 0) (p := cls120 0) rfl (by unfold cls120; omega)
    have H122 := s_yes (k := 122) (c := 0) (p := cls122 0) rfl (by unfold cls122; omega)
    go_enter Try.func6, Try.ntmps6
    go_wp2_with (first | (go_at_call 8; refine (zz_is _ _ _ _ (by assumption)).mono ?_; rintro e w' ⟨rfl, c, T, rfl⟩) | go_in)
    go_ret
    exact ⟨rfl, by repeat (first | exact Grown.refl _ | apply Grown.drew | apply Grown.alloc)⟩
  · skip
    have H97 := s_no (k := 97) (c := a0) (p := cls97 a0) rfl (by unfold cls97; omega)
    have H99 := s_yes (k := 99) (c := a0) (p := cls99 a0) rfl (by unfold cls99; omega)
    have H100 := s_no (k := 100) (c := a0) (p := cls100 a0) rfl (by unfold cls100; omega)
    have H108 := s_no (k := 108) (c := a0) (p := cls108 a0) rfl (by unfold cls108; omega)
    have H112 := s_no (k := 112) (c := a0) (p := cls112 a0) rfl (by unfold cls112; omega)
    have H115 := s_no (k := 115) (c := a0) (p := cls115 a0) rfl (by unfold cls115; omega)
    have H117 := s_no (k := 117) (c := a0) (p := cls117 a0) rfl (by unfold cls117; omega)
    have H119 := s_no (k := 119) (c := a0) (p := cls119 a0) rfl (by unfold cls119; omega)
    have H120 := s_no (k := 120) (c := a0) (p := cls120 a0) rfl (by unfold cls120; omega)
    have H122 := s_no (k := 122) (c := a0) (p := cls122 a0) rfl (by unfold cls122; omega)
    have x1 : decide (33 ≤ a0) = false := by simp; omega
    have x2 : decide (a0 ≤ 126) = true := by simp; omega
    have x3 : decide (a0 < 0) = false := by simp; omega
    have x4 : decide (127 < a0) = false := by simp; omega
    have x5 : (a0 == 0) = false := by simp; omega
    have x6 : (a0 != 32) = true := by simp; omega
    go_enter Try.func6, Try.ntmps6
    go_wp2_with (first | (go_at_call 8; refine (zz_is _ _ _ _ (by assumption)).mono ?_; rintro e w' ⟨rfl, c, T, rfl⟩) | go_in)
    go_ret
    exact ⟨rfl, by repeat (first | exact Grown.refl _ | apply Grown.drew | apply Grown.alloc)⟩
  · skip
    have H97 := s_no (k := 97) (c := a0) (p := cls97 a0) rfl (by unfold cls97; omega)
    have H99 := s_yes (k := 99) (c := a0) (p := cls99 a0) rfl (by unfold cls99; omega)
    have H100 := s_no (k := 100) (c := a0) (p := cls100 a0) rfl (by unfold cls100; omega)
    have H108 := s_no (k := 108) (c := a0) (p := cls108 a0) rfl (by unfold cls108; omega)
    have H112 := s_no (k := 112) (c := a0) (p := cls112 a0) rfl (by unfold cls112; omega)
    have H115 := s_yes (k := 115) (c := a0) (p := cls115 a0) rfl (by unfold cls115; omega)
    have H117 := s_no (k := 117) (c := a0) (p := cls117 a0) rfl (by unfold cls117; omega)
    have H119 := s_no (k := 119) (c := a0) (p := cls119 a0) rfl (by unfold cls119; omega)
    have H120 := s_no (k := 120) (c := a0) (p := cls120 a0) rfl (by unfold cls120; omega)
    have H122 := s_no (k := 122) (c := a0) (p := cls122 a0) rfl (by unfold cls122; omega)
    have x1 : decide (33 ≤ a0) = false := by simp; omega
    have x2 : decide (a0 ≤ 126) = true := by simp; omega
    have x3 : decide (a0 < 0) = false := by simp; omega
    have x4 : decide (127 < a0) = false := by simp; omega
    have x5 : (a0 == 0) = false := by simp; omega
    have x6 : (a0 != 32) = true := by simp; omega
    go_enter Try.func6, Try.ntmps6
    go_wp2_with (first | (go_at_call 8; refine (zz_is _ _ _ _ (by assumption)).mono ?_; rintro e w' ⟨rfl, c, T, rfl⟩) | go_in)
    go_ret
    exact ⟨rfl, by repeat (first | exact Grown.refl _ | apply Grown.drew | apply Grown.alloc)⟩
  · skip
    have H97 := s_no (k := 97) (c := a0) (p := cls97 a0) rfl (by unfold cls97; omega)
    have H99 := s_yes (k := 99) (c := a0) (p := cls99 a0) rfl (by unfold cls99; omega)
    have H100 := s_no (k := 100) (c := a0) (p := cls100 a0) rfl (by unfold cls100; omega)
    have H108 := s_no (k := 108) (c := a0) (p := cls108 a0) rfl (by unfold cls108; omega)
    have H112 := s_no (k := 112) (c := a0) (p := cls112 a0) rfl (by unfold cls112; omega)
    have H115 := s_no (k := 115) (c := a0) (p := cls115 a0) rfl (by unfold cls115; omega)
    have H117 := s_no (k := 117) (c := a0) (p := cls117 a0) rfl (by unfold cls117; omega)
    have H119 := s_no (k := 119) (c := a0) (p := cls119 a0) rfl (by unfold cls119; omega)
    have H120 := s_no (k := 120) (c := a0) (p := cls120 a0) rfl (by unfold cls120; omega)
    have H122 := s_no (k := 122) (c := a0) (p := cls122 a0) rfl (by unfold cls122; omega)
    have x1 : decide (33 ≤ a0) = false := by simp; omega
    have x2 : decide (a0 ≤ 126) = true := by simp; omega
    have x3 : decide (a0 < 0) = false := by simp; omega
    have x4 : decide (127 < a0) = false := by simp; omega
    have x5 : (a0 == 0) = false := by simp; omega
    have x6 : (a0 != 32) = true := by simp; omega
    go_enter Try.func6, Try.ntmps6
    go_wp2_with (first | (go_at_call 8; refine (zz_is _ _ _ _ (by assumption)).mono ?_; rintro e w' ⟨rfl, c, T, rfl⟩) | go_in)
    go_ret
    exact ⟨rfl, by repeat (first | exact Grown.refl _ | apply Grown.drew | apply Grown.alloc)⟩
  · skip
    have H97 := s_no (k := 97) (c := 32) (p := cls97 32) rfl (by unfold cls97; omega)
    have H99 := s_no (k := 99) (c := 32) (p := cls99 32) rfl (by unfold cls99; omega)
    have H100 := s_no (k := 100) (c := 32) (p := cls100 32) rfl (by unfold cls100; omega)
    have H108 := s_no (k := 108) (c := 32) (p := cls108 32) rfl (by unfold cls108; omega)
    have H112 := s_no (k := 112) (c := 32) (p := cls112 32) rfl (by unfold cls112; omega)
    have H115 := s_yes (k := 115) (c := 32) (p := cls115 32) rfl (by unfold cls115; omega)
    have H117 := s_no (k := 117) (c := 32) (p := cls117 32) rfl (by unfold cls117; omega)
    have H119 := s_no (k := 119) (c := 32) (p := cls119 32) rfl (by unfold cls119; omega)
    have H120 := s_no (k := 120) (c := 32) (p := cls120 32) rfl (by unfold cls120; omega)
    have H122 := s_no (k := 122) (c := 32) (p := cls122 32) rfl (by unfold cls122; omega)
    go_enter Try.func6, Try.ntmps6
    go_wp2_with (first | (go_at_call 8; refine (zz_is _ _ _ _ (by assumption)).mono ?_; rintro e w' ⟨rfl, c, T, rfl⟩) | go_in)
    go_ret
    exact ⟨rfl, by repeat (first | exact Grown.refl _ | apply Grown.drew | apply Grown.alloc)⟩
  · skip
    have H97 := s_no (k := 97) (c := a0) (p := cls97 a0) rfl (by unfold cls97; omega)
    have H99 := s_no (k := 99) (c := a0) (p := cls99 a0) rfl (by unfold cls99; omega)
    have H100 := s_no (k := 100) (c := a0) (p := cls100 a0) rfl (by unfold cls100; omega)
    have H108 := s_no (k := 108) (c := a0) (p := cls108 a0) rfl (by unfold cls108; omega)
    have H112 := s_yes (k := 112) (c := a0) (p := cls112 a0) rfl (by unfold cls112; omega)
    have H115 := s_no (k := 115) (c := a0) (p := cls115 a0) rfl (by unfold cls115; omega)
    have H117 := s_no (k := 117) (c := a0) (p := cls117 a0) rfl (by unfold cls117; omega)
    have H119 := s_no (k := 119) (c := a0) (p := cls119 a0) rfl (by unfold cls119; omega)
    have H120 := s_no (k := 120) (c := a0) (p := cls120 a0) rfl (by unfold cls120; omega)
    have H122 := s_no (k := 122) (c := a0) (p := cls122 a0) rfl (by unfold cls122; omega)
    have x1 : decide (33 ≤ a0) = true := by simp; omega
    have x2 : decide (a0 ≤ 126) = true := by simp; omega
    have x3 : decide (a0 < 0) = false := by simp; omega
    have x4 : decide (127 < a0) = false := by simp; omega
    have x5 : (a0 == 0) = false := by simp; omega
    have x6 : (a0 != 32) = true := by simp; omega
    go_enter Try.func6, Try.ntmps6
    go_wp2_with (first | (go_at_call 8; refine (zz_is _ _ _ _ (by assumption)).mono ?_; rintro e w' ⟨rfl, c, T, rfl⟩) | go_in)
    go_ret
    exact ⟨rfl, by repeat (first | exact Grown.refl _ | apply Grown.drew | apply Grown.alloc)⟩
  · skip
    have H97 := s_no (k := 97) (c := a0) (p := cls97 a0) rfl (by unfold cls97; omega)
    have H99 := s_no (k := 99) (c := a0) (p := cls99 a0) rfl (by unfold cls99; omega)
    have H100 := s_yes (k := 100) (c := a0) (p := cls100 a0) rfl (by unfold cls100; omega)
    have H108 := s_no (k := 108) (c := a0) (p := cls108 a0) rfl (by unfold cls108; omega)
    have H112 := s_no (k := 112) (c := a0) (p := cls112 a0) rfl (by unfold cls112; omega)
    have H115 := s_no (k := 115) (c := a0) (p := cls115 a0) rfl (by unfold cls115; omega)
    have H117 := s_no (k := 117) (c := a0) (p := cls117 a0) rfl (by unfold cls117; omega)
    have H119 := s_yes (k := 119) (c := a0) (p := cls119 a0) rfl (by unfold cls119; omega)
    have H120 := s_yes (k := 120) (c := a0) (p := cls120 a0) rfl (by unfold cls120; omega)
    have H122 := s_no (k := 122) (c := a0) (p := cls122 a0) rfl (by unfold cls122; omega)
    have x1 : decide (33 ≤ a0) = true := by simp; omega
    have x2 : decide (a0 ≤ 126) = true := by simp; omega
    have x3 : decide (a0 < 0) = false := by simp; omega
    have x4 : decide (127 < a0) = false := by simp; omega
    have x5 : (a0 == 0) = false := by simp; omega
    have x6 : (a0 != 32) = true := by simp; omega
    go_enter Try.func6, Try.ntmps6
    go_wp2_with (first | (go_at_call 8; refine (zz_is _ _ _ _ (by assumption)).mono ?_; rintro e w' ⟨rfl, c, T, rfl⟩) | go_in)
    go_ret
    exact ⟨rfl, by repeat (first | exact Grown.refl _ | apply Grown.drew | apply Grown.alloc)⟩
  · skip
    have H97 := s_no (k := 97) (c := a0) (p := cls97 a0) rfl (by unfold cls97; omega)
    have H99 := s_no (k := 99) (c := a0) (p := cls99 a0) rfl (by unfold cls99; omega)
    have H100 := s_no (k := 100) (c := a0) (p := cls100 a0) rfl (by unfold cls100; omega)
    have H108 := s_no (k := 108) (c := a0) (p := cls108 a0) rfl (by unfold cls108; omega)
    have H112 := s_yes (k := 112) (c := a0) (p := cls112 a0) rfl (by unfold cls112; omega)
    have H115 := s_no (k := 115) (c := a0) (p := cls115 a0) rfl (by unfold cls115; omega)
    have H117 := s_no (k := 117) (c := a0) (p := cls117 a0) rfl (by unfold cls117; omega)
    have H119 := s_no (k := 119) (c := a0) (p := cls119 a0) rfl (by unfold cls119; omega)
    have H120 := s_no (k := 120) (c := a0) (p := cls120 a0) rfl (by unfold cls120; omega)
    have H122 := s_no (k := 122) (c := a0) (p := cls122 a0) rfl (by unfold cls122; omega)
    have x1 : decide (33 ≤ a0) = true := by simp; omega
    have x2 : decide (a0 ≤ 126) = true := by simp; omega
    have x3 : decide (a0 < 0) = false := by simp; omega
    have x4 : decide (127 < a0) = false := by simp; omega
    have x5 : (a0 == 0) = false := by simp; omega
    have x6 : (a0 != 32) = true := by simp; omega
    go_enter Try.func6, Try.ntmps6
    go_wp2_with (first | (go_at_call 8; refine (zz_is _ _ _ _ (by assumption)).mono ?_; rintro e w' ⟨rfl, c, T, rfl⟩) | go_in)
    go_ret
    exact ⟨rfl, by repeat (first | exact Grown.refl _ | apply Grown.drew | apply Grown.alloc)⟩
  · skip
    have H97 := s_yes (k := 97) (c := a0) (p := cls97 a0) rfl (by unfold cls97; omega)
    have H99 := s_no (k := 99) (c := a0) (p := cls99 a0) rfl (by unfold cls99; omega)
    have H100 := s_no (k := 100) (c := a0) (p := cls100 a0) rfl (by unfold cls100; omega)
    have H108 := s_no (k := 108) (c := a0) (p := cls108 a0) rfl (by unfold cls108; omega)
    have H112 := s_no (k := 112) (c := a0) (p := cls112 a0) rfl (by unfold cls112; omega)
    have H115 := s_no (k := 115) (c := a0) (p := cls115 a0) rfl (by unfold cls115; omega)
    have H117 := s_yes (k := 117) (c := a0) (p := cls117 a0) rfl (by unfold cls117; omega)
    have H119 := s_yes (k := 119) (c := a0) (p := cls119 a0) rfl (by unfold cls119; omega)
    have H120 := s_yes (k := 120) (c := a0) (p := cls120 a0) rfl (by unfold cls120; omega)
    have H122 := s_no (k := 122) (c := a0) (p := cls122 a0) rfl (by unfold cls122; omega)
    have x1 : decide (33 ≤ a0) = true := by simp; omega
    have x2 : decide (a0 ≤ 126) = true := by simp; omega
    have x3 : decide (a0 < 0) = false := by simp; omega
    have x4 : decide (127 < a0) = false := by simp; omega
    have x5 : (a0 == 0) = false := by simp; omega
    have x6 : (a0 != 32) = true := by simp; omega
    go_enter Try.func6, Try.ntmps6
    go_wp2_with (first | (go_at_call 8; refine (zz_is _ _ _ _ (by assumption)).mono ?_; rintro e w' ⟨rfl, c, T, rfl⟩) | go_in)
    go_ret
    exact ⟨rfl, by repeat (first | exact Grown.refl _ | apply Grown.drew | apply Grown.alloc)⟩
  · skip
    have H97 := s_yes (k := 97) (c := a0) (p := cls97 a0) rfl (by unfold cls97; omega)
    have H99 := s_no (k := 99) (c := a0) (p := cls99 a0) rfl (by unfold cls99; omega)
    have H100 := s_no (k := 100) (c := a0) (p := cls100 a0) rfl (by unfold cls100; omega)
    have H108 := s_no (k := 108) (c := a0) (p := cls108 a0) rfl (by unfold cls108; omega)
    have H112 := s_no (k := 112) (c := a0) (p := cls112 a0) rfl (by unfold cls112; omega)
    have H115 := s_no (k := 115) (c := a0) (p := cls115 a0) rfl (by unfold cls115; omega)
    have H117 := s_yes (k := 117) (c := a0) (p := cls117 a0) rfl (by unfold cls117; omega)
    have H119 := s_yes (k := 119) (c := a0) (p := cls119 a0) rfl (by unfold cls119; omega)
    have H120 := s_no (k := 120) (c := a0) (p := cls120 a0) rfl (by unfold cls120; omega)
    have H122 := s_no (k := 122) (c := a0) (p := cls122 a0) rfl (by unfold cls122; omega)
    have x1 : decide (33 ≤ a0) = true := by simp; omega
    have x2 : decide (a0 ≤ 126) = true := by simp; omega
    have x3 : decide (a0 < 0) = false := by simp; omega
    have x4 : decide (127 < a0) = false := by simp; omega
    have x5 : (a0 == 0) = false := by simp; omega
    have x6 : (a0 != 32) = true := by simp; omega
    go_enter Try.func6, Try.ntmps6
    go_wp2_with (first | (go_at_call 8; refine (zz_is _ _ _ _ (by assumption)).mono ?_; rintro e w' ⟨rfl, c, T, rfl⟩) | go_in)
    go_ret
    exact ⟨rfl, by repeat (first | exact Grown.refl _ | apply Grown.drew | apply Grown.alloc)⟩
  · skip
    have H97 := s_no (k := 97) (c := a0) (p := cls97 a0) rfl (by unfold cls97; omega)
    have H99 := s_no (k := 99) (c := a0) (p := cls99 a0) rfl (by unfold cls99; omega)
    have H100 := s_no (k := 100) (c := a0) (p := cls100 a0) rfl (by unfold cls100; omega)
    have H108 := s_no (k := 108) (c := a0) (p := cls108 a0) rfl (by unfold cls108; omega)
    have H112 := s_yes (k := 112) (c := a0) (p := cls112 a0) rfl (by unfold cls112; omega)
    have H115 := s_no (k := 115) (c := a0) (p := cls115 a0) rfl (by unfold cls115; omega)
    have H117 := s_no (k := 117) (c := a0) (p := cls117 a0) rfl (by unfold cls117; omega)
    have H119 := s_no (k := 119) (c := a0) (p := cls119 a0) rfl (by unfold cls119; omega)
    have H120 := s_no (k := 120) (c := a0) (p := cls120 a0) rfl (by unfold cls120; omega)
    have H122 := s_no (k := 122) (c := a0) (p := cls122 a0) rfl (by unfold cls122; omega)
    have x1 : decide (33 ≤ a0) = true := by simp; omega
    have x2 : decide (a0 ≤ 126) = true := by simp; omega
    have x3 : decide (a0 < 0) = false := by simp; omega
    have x4 : decide (127 < a0) = false := by simp; omega
    have x5 : (a0 == 0) = false := by simp; omega
    have x6 : (a0 != 32) = true := by simp; omega
    go_enter Try.func6, Try.ntmps6
    go_wp2_with (first | (go_at_call 8; refine (zz_is _ _ _ _ (by assumption)).mono ?_; rintro e w' ⟨rfl, c, T, rfl⟩) | go_in)
    go_ret
    exact ⟨rfl, by repeat (first | exact Grown.refl _ | apply Grown.drew | apply Grown.alloc)⟩
  · skip
    have H97 := s_yes (k := 97) (c := a0) (p := cls97 a0) rfl (by unfold cls97; omega)
    have H99 := s_no (k := 99) (c := a0) (p := cls99 a0) rfl (by unfold cls99; omega)
    have H100 := s_no (k := 100) (c := a0) (p := cls100 a0) rfl (by unfold cls100; omega)
    have H108 := s_yes (k := 108) (c := a0) (p := cls108 a0) rfl (by unfold cls108; omega)
    have H112 := s_no (k := 112) (c := a0) (p := cls112 a0) rfl (by unfold cls112; omega)
    have H115 := s_no (k := 115) (c := a0) (p := cls115 a0) rfl (by unfold cls115; omega)
    have H117 := s_no (k := 117) (c := a0) (p := cls117 a0) rfl (by unfold cls117; omega)
    have H119 := s_yes (k := 119) (c := a0) (p := cls119 a0) rfl (by unfold cls119; omega)
    have H120 := s_yes (k := 120) (c := a0) (p := cls120 a0) rfl (by unfold cls120; omega)
    have H122 := s_no (k := 122) (c := a0) (p := cls122 a0) rfl (by unfold cls122; omega)
    have x1 : decide (33 ≤ a0) = true := by simp; omega
    have x2 : decide (a0 ≤ 126) = true := by simp; omega
    have x3 : decide (a0 < 0) = false := by simp; omega
    have x4 : decide (127 < a0) = false := by simp; omega
    have x5 : (a0 == 0) = false := by simp; omega
    have x6 : (a0 != 32) = true := by simp; omega
    go_enter Try.func6, Try.ntmps6
    go_wp2_with (first | (go_at_call 8; refine (zz_is _ _ _ _ (by assumption)).mono ?_; rintro e w' ⟨rfl, c, T, rfl⟩) | go_in)
    go_ret
    exact ⟨rfl, by repeat (first | exact Grown.refl _ | apply Grown.drew | apply Grown.alloc)⟩
  · skip
    have H97 := s_yes (k := 97) (c := a0) (p := cls97 a0) rfl (by unfold cls97; omega)
    have H99 := s_no (k := 99) (c := a0) (p := cls99 a0) rfl (by unfold cls99; omega)
    have H100 := s_no (k := 100) (c := a0) (p := cls100 a0) rfl (by unfold cls100; omega)
    have H108 := s_yes (k := 108) (c := a0) (p := cls108 a0) rfl (by unfold cls108; omega)
    have H112 := s_no (k := 112) (c := a0) (p := cls112 a0) rfl (by unfold cls112; omega)
    have H115 := s_no (k := 115) (c := a0) (p := cls115 a0) rfl (by unfold cls115; omega)
    have H117 := s_no (k := 117) (c := a0) (p := cls117 a0) rfl (by unfold cls117; omega)
    have H119 := s_yes (k := 119) (c := a0) (p := cls119 a0) rfl (by unfold cls119; omega)
    have H120 := s_no (k := 120) (c := a0) (p := cls120 a0) rfl (by unfold cls120; omega)
    have H122 := s_no (k := 122) (c := a0) (p := cls122 a0) rfl (by unfold cls122; omega)
    have x1 : decide (33 ≤ a0) = true := by simp; omega
    have x2 : decide (a0 ≤ 126) = true := by simp; omega
    have x3 : decide (a0 < 0) = false := by simp; omega
    have x4 : decide (127 < a0) = false := by simp; omega
    have x5 : (a0 == 0) = false := by simp; omega
    have x6 : (a0 != 32) = true := by simp; omega
    go_enter Try.func6, Try.ntmps6
    go_wp2_with (first | (go_at_call 8; refine (zz_is _ _ _ _ (by assumption)).mono ?_; rintro e w' ⟨rfl, c, T, rfl⟩) | go_in)
    go_ret
    exact ⟨rfl, by repeat (first | exact Grown.refl _ | apply Grown.drew | apply Grown.alloc)⟩
  · skip
    have H97 := s_no (k := 97) (c := a0) (p := cls97 a0) rfl (by unfold cls97; omega)
    have H99 := s_no (k := 99) (c := a0) (p := cls99 a0) rfl (by unfold cls99; omega)
    have H100 := s_no (k := 100) (c := a0) (p := cls100 a0) rfl (by unfold cls100; omega)
    have H108 := s_no (k := 108) (c := a0) (p := cls108 a0) rfl (by unfold cls108; omega)
    have H112 := s_yes (k := 112) (c := a0) (p := cls112 a0) rfl (by unfold cls112; omega)
    have H115 := s_no (k := 115) (c := a0) (p := cls115 a0) rfl (by unfold cls115; omega)
    have H117 := s_no (k := 117) (c := a0) (p := cls117 a0) rfl (by unfold cls117; omega)
    have H119 := s_no (k := 119) (c := a0) (p := cls119 a0) rfl (by unfold cls119; omega)
    have H120 := s_no (k := 120) (c := a0) (p := cls120 a0) rfl (by unfold cls120; omega)
    have H122 := s_no (k := 122) (c := a0) (p := cls122 a0) rfl (by unfold cls122; omega)
    have x1 : decide (33 ≤ a0) = true := by simp; omega
    have x2 : decide (a0 ≤ 126) = true := by simp; omega
    have x3 : decide (a0 < 0) = false := by simp; omega
    have x4 : decide (127 < a0) = false := by simp; omega
    have x5 : (a0 == 0) = false := by simp; omega
    have x6 : (a0 != 32) = true := by simp; omega
    go_enter Try.func6, Try.ntmps6
    go_wp2_with (first | (go_at_call 8; refine (zz_is _ _ _ _ (by assumption)).mono ?_; rintro e w' ⟨rfl, c, T, rfl⟩) | go_in)
    go_ret
    exact ⟨rfl, by repeat (first | exact Grown.refl _ | apply Grown.drew | apply Grown.alloc)⟩
  · skip
    have H97 := s_no (k := 97) (c := 127) (p := cls97 127) rfl (by unfold cls97; omega)
    have H99 := s_yes (k := 99) (c := 127) (p := cls99 127) rfl (by unfold cls99; omega)
    have H100 := s_no (k := 100) (c := 127) (p := cls100 127) rfl (by unfold cls100; omega)
    have H108 := s_no (k := 108) (c := 127) (p := cls108 127) rfl (by unfold cls108; omega)
    have H112 := s_no (k := 112) (c := 127) (p := cls112 127) rfl (by unfold cls112; omega)
    have H115 := s_no (k := 115) (c := 127) (p := cls115 127) rfl (by unfold cls115; omega)
    have H117 := s_no (k := 117) (c := 127) (p := cls117 127) rfl (by unfold cls117; omega)
    have H119 := s_no (k := 119) (c := 127) (p := cls119 127) rfl (by unfold cls119; omega)
    have H120 := s_no (k := 120) (c := 127) (p := cls120 127) rfl (by unfold cls120; omega)
    have H122 := s_no (k := 122) (c := 127) (p := cls122 127) rfl (by unfold cls122; omega)
    go_enter Try.func6, Try.ntmps6
    go_wp2_with (first | (go_at_call 8; refine (zz_is _ _ _ _ (by assumption)).mono ?_; rintro e w' ⟨rfl, c, T, rfl⟩) | go_in)
    go_ret
    exact ⟨rfl, by repeat (first | exact Grown.refl _ | apply Grown.drew | apply Grown.alloc)⟩
  · skip
    have H97 := s_no (k := 97) (c := a0) (p := cls97 a0) rfl (by unfold cls97; omega)
    have H99 := s_no (k := 99) (c := a0) (p := cls99 a0) rfl (by unfold cls99; omega)
    have H100 := s_no (k := 100) (c := a0) (p := cls100 a0) rfl (by unfold cls100; omega)
    have H108 := s_no (k := 108) (c := a0) (p := cls108 a0) rfl (by unfold cls108; omega)
    have H112 := s_no (k := 112) (c := a0) (p := cls112 a0) rfl (by unfold cls112; omega)
    have H115 := s_no (k := 115) (c := a0) (p := cls115 a0) rfl (by unfold cls115; omega)
    have H117 := s_no (k := 117) (c := a0) (p := cls117 a0) rfl (by unfold cls117; omega)
    have H119 := s_no (k := 119) (c := a0) (p := cls119 a0) rfl (by unfold cls119; omega)
    have H120 := s_no (k := 120) (c := a0) (p := cls120 a0) rfl (by unfold cls120; omega)
    have H122 := s_no (k := 122) (c := a0) (p := cls122 a0) rfl (by unfold cls122; omega)
    have x1 : decide (33 ≤ a0) = true := by simp; omega
    have x2 : decide (a0 ≤ 126) = false := by simp; omega
    have x3 : decide (a0 < 0) = false := by simp; omega
    have x4 : decide (127 < a0) = true := by simp; omega
    have x5 : (a0 == 0) = false := by simp; omega
    have x6 : (a0 != 32) = true := by simp; omega
    go_enter Try.func6, Try.ntmps6
    go_wp2_with (first | (go_at_call 8; refine (zz_is _ _ _ _ (by assumption)).mono ?_; rintro e w' ⟨rfl, c, T, rfl⟩) | go_in)
    go_ret
    exact ⟨rfl, by repeat (first | exact Grown.refl _ | apply Grown.drew | apply Grown.alloc)⟩

/-! ### THE ROW's STEP: WRITTEN OUT: LEAVE IT -/
set_option maxRecDepth 100000 in
theorem lifted (os : Os) (started : os.Started) (H : Type) (enc : TypeId × Value → H) :
    ReturnsInHanded {} Try.checked os 6 .any (Rows.fnSingleClassLatticeSpec.pre6 enc Try.prog Try.f6 Rows.fnSingleClassLatticeRow.domain false) (Rows.fnSingleClassLatticeSpec.post enc Try.prog Try.f6 false true false false) := by
  refine returnsInHanded_of_change (C := Try.checked) own started (by kernel_rfl) Try.func6
    (ChangeSpec.witness6 (enc := enc) (C := Try.checked) false ⟨#[], #[.int .i64 0], []⟩ 8 (by kernel_rfl) (by kernel_rfl) (by kernel_rfl) (by kernel_rfl)) ?_
  intro W base args ds gs before hval0 hW hcnd _
  have hval : ∀ (j : Nat) t v, Try.f6.params[j]? = some t → args[j]? = some v → Value.okWide Try.prog W .any base t v := hval0
  have hW' := hW
  obtain ⟨p, q, hA0, hV, rfl, hfz, hnd⟩ := hW
  have hA : DataW.TrodAll enc Try.prog W 0 (fun _ => true) true Try.f6.params.toList args.toList ds p := hA0
  rw [Try.params6] at hA hval
  obtain ⟨v0, vs0, d0, ds0, p0, q0, hargs, rfl, rfl, h0, r0⟩ := trodAll_cons hA
  obtain ⟨rfl, rfl, rfl⟩ := trodAll_nil r0
  obtain rfl : args = #[v0] := by cases args; simp_all
  obtain ⟨rfl, rfl⟩ := trodVars_none hV
  obtain ⟨a0, rfl, rfl, rfl, w0⟩ := open_int Try.underlying3 (hval 0 3 v0 rfl rfl) h0
  clear hA0 hval0
  simp only [List.append_nil] at hW'
  refine (walk a0 w0 W).mono fun e W' ⟨he, hg⟩ => ?_
  subst he
  exact ⟨_, rfl, post_of_same (pa := []) (pv := []) hW' (fun _ _ _ => (trodAll_cons_mk (shut_bool Try.underlying4 _) trodAll_mk0)) (fun sp _ => (trodAll_cons_mk (shut_int Try.underlying3 w0) trodAll_mk0)) (fun _ _ => rfl) rfl
    (hg.frame _) hg.2.1 (ok_one (by kernel_rfl) rfl (okWide_bool_mk Try.underlying4 _))⟩

theorem over : Rows.fnSingleClassLatticeRow.holds Try.pinned (OpenSpec.ofChange Rows.fnSingleClassLatticeSpec) :=
  OpenClaim.holds_of_wide 6 Try.f6 rfl rfl rfl rfl rfl rfl rfl ⟨rfl, rfl, rfl, rfl, rfl⟩ rfl rfl rfl rfl rfl (by kernel_rfl) Try.func6 (by kernel_rfl)
    (of_decide_eq_true (by kernel_rfl)) (by unfold Func.isWrapper; first | (rw [if_pos (by decide +kernel)]; kernel_rfl) | (rw [if_neg (by decide +kernel)]; exact ⟨rfl, rfl⟩))
    (fun os started H enc _ => lifted os started H enc)

/-- ████ THE STATEMENT ████ -/
theorem proved : Rows.FnSingleClassLatticeSaid :=
  over
#print axioms proved
end Go.Proofs.Ytkkafhbdfflanaa.fnSingleClassLattice
