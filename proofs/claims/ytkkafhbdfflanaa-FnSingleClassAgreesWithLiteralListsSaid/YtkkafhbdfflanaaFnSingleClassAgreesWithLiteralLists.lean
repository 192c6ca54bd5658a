/-
  The given statement on FnSingleClassAgreesWithLiteralLists: for every input the law returns true and leaves its arguments as they were. No condition beyond the statement's own.
  The frame was written by the kit's proof-skeleton.
-/
import Derived.Test.YtkkafhbdfflanaaCls2
import Derived.Test.YtkkafhbdfflanaaRows
import Derived.WalkKit
import Derived.ProofKit
import Derived.OpenShut
import Derived.ShutString
namespace Go.Proofs.Ytkkafhbdfflanaa.fnSingleClassAgreesWithLiteralLists
open Go.ChangeShapes Go.WideShapes Go.ChangeAt Go.RowKit
open Go.ChangeMaps (open_string shut_string)
set_option linter.unusedVariables false      -- a walk need not use every 'w<i>' (that an integer argument fits its kind)

theorem own : ownKnob Try.prog.godebug = none := by kernel_rfl

set_option maxRecDepth 100000
set_option maxHeartbeats 1000000
theorem hout (f : Int → Bool) (h : ∀ c, f c = true → 0 ≤ c ∧ c ≤ 255) : ∀ c : Int, c < 0 ∨ 255 < c → f c = false := by
  intro c hc
  cases hf : f c
  · rfl
  · have := h c hf; omega
theorem bd_p (c : Int) (h : singB 112 c = true) : 0 ≤ c ∧ c ≤ 255 := by
  have h2 : singB 112 c = decide (cls112 c) := rfl
  rw [h2, decide_eq_true_eq] at h; unfold cls112 at h; omega
theorem bd_s (c : Int) (h : singB 115 c = true) : 0 ≤ c ∧ c ≤ 255 := by
  have h2 : singB 115 c = decide (cls115 c) := rfl
  rw [h2, decide_eq_true_eq] at h; unfold cls115 at h; omega
theorem bd_x (c : Int) (h : singB 120 c = true) : 0 ≤ c ∧ c ≤ 255 := by
  have h2 : singB 120 c = decide (cls120 c) := rfl
  rw [h2, decide_eq_true_eq] at h; unfold cls120 at h; omega
theorem tab_s (c : Int) : tabB (ByteArray.mk #[9, 10, 11, 12, 13, 32]).data.toList c = singB 115 c := tab_byte _ _ (by decide +kernel) (hout _ bd_s) c
theorem tab_x (c : Int) : tabB (ByteArray.mk #[48, 49, 50, 51, 52, 53, 54, 55, 56, 57, 97, 98, 99, 100, 101, 102, 65, 66, 67, 68, 69, 70]).data.toList c = singB 120 c := tab_byte _ _ (by decide +kernel) (hout _ bd_x) c
theorem tab_p (c : Int) : singB 112 c = (tabB (ByteArray.mk #[33, 34, 35, 36, 37, 38, 39, 40, 41, 42, 43, 44, 45, 46, 47, 58, 59, 60, 61, 62, 63, 64, 91, 92, 93, 94, 95, 123, 124, 125, 126]).data.toList c || decide (c = 96)) := by
  have h : tabB (ByteArray.mk #[33, 34, 35, 36, 37, 38, 39, 40, 41, 42, 43, 44, 45, 46, 47, 58, 59, 60, 61, 62, 63, 64, 91, 92, 93, 94, 95, 123, 124, 125, 126]).data.toList c = (singB 112 c && decide (c ≠ 96)) :=
    tab_byte _ (fun c => singB 112 c && decide (c ≠ 96)) (by decide +kernel) (hout _ (fun c h => bd_p c (by simp only [Bool.and_eq_true] at h; exact h.1))) c
  rw [h]
  by_cases h96 : c = 96
  · subst h96; decide +kernel
  · simp [h96]

/-! ### STEP 1: THE WALK: the Go text returns true. 'Grown w w'': the world has at most new blocks (Derived/RowKit3.lean). Part the cases AHEAD of 'go_enter' where a test parts the walk; take each callee by a contract of your own. -/
theorem walk (a0 : Int) (w0 : (Lit.int .i64 a0).wf = true) (w : World) :
    Calls Try.prog 4 #[.int .i64 a0] w fun e w' => e = .returned (.bool true) ∧ Grown w w' := by
  have P : singB 112 a0 = (tabB (ByteArray.mk #[33, 34, 35, 36, 37, 38, 39, 40, 41, 42, 43, 44, 45, 46, 47, 58, 59, 60, 61, 62, 63, 64, 91, 92, 93, 94, 95, 123, 124, 125, 126]).data.toList a0 || decide (a0 = 96)) := tab_p a0
  have S : singB 115 a0 = tabB (ByteArray.mk #[9, 10, 11, 12, 13, 32]).data.toList a0 := (tab_s a0).symm
  have X : singB 120 a0 = tabB (ByteArray.mk #[48, 49, 50, 51, 52, 53, 54, 55, 56, 57, 97, 98, 99, 100, 101, 102, 65, 66, 67, 68, 69, 70]).data.toList a0 := (tab_x a0).symm
  cases hs : singB 115 a0
  all_goals
    cases hx : singB 120 a0
    all_goals
      have HS := Lib.hid hs
      have HX := Lib.hid hx
      rw [hs] at S
      rw [hx] at X
      have HTS := Lib.hid S.symm
      have HTX := Lib.hid X.symm
      clear hs hx
      by_cases h96 : a0 = 96
      · subst h96
        have HP : Hid (singB 112 96 = true) := by unfold Hid; decide +kernel
        have HT : Hid (tabB (ByteArray.mk #[33, 34, 35, 36, 37, 38, 39, 40, 41, 42, 43, 44, 45, 46, 47, 58, 59, 60, 61, 62, 63, 64, 91, 92, 93, 94, 95, 123, 124, 125, 126]).data.toList 96 = false) := by unfold Hid; decide +kernel
        clear P S X
        go_enter Try.func4, Try.ntmps4
        go_wp2_with (first | (go_at_call 7; refine (icl_is _ _ _ (by assumption)).mono ?_; rintro e w' ⟨rfl, rfl⟩) | (go_at_call 8; refine (zz_is _ _ _ _ (by assumption)).mono ?_; rintro e w' ⟨rfl, c, T, rfl⟩) | (go_at_call 9; refine (tab_is _ _ _ _ (by decide) (by assumption)).mono ?_; rintro e w' ⟨rfl, rfl⟩) | go_in)
        go_ret
        exact ⟨rfl, by repeat (first | exact Grown.refl _ | apply Grown.drew | apply Grown.alloc)⟩
      · have h96' : (a0 == 96) = false := by simpa using h96
        simp only [h96, decide_false, Bool.or_false] at P
        cases hp : singB 112 a0
        all_goals
          rw [hp] at P
          have HP := Lib.hid hp
          have HT := Lib.hid P.symm
          clear hp P S X
          go_enter Try.func4, Try.ntmps4
          go_wp2_with (first | (go_at_call 7; refine (icl_is _ _ _ (by assumption)).mono ?_; rintro e w' ⟨rfl, rfl⟩) | (go_at_call 8; refine (zz_is _ _ _ _ (by assumption)).mono ?_; rintro e w' ⟨rfl, c, T, rfl⟩) | (go_at_call 9; refine (tab_is _ _ _ _ (by decide) (by assumption)).mono ?_; rintro e w' ⟨rfl, rfl⟩) | go_in)
          go_ret
          exact ⟨rfl, by repeat (first | exact Grown.refl _ | apply Grown.drew | apply Grown.alloc)⟩

/-! ### THE ROW's STEP: WRITTEN OUT: LEAVE IT -/
set_option maxRecDepth 100000 in
theorem lifted (os : Os) (started : os.Started) (H : Type) (enc : TypeId × Value → H) :
    ReturnsInHanded {} Try.checked os 4 .any (Rows.fnSingleClassAgreesWithLiteralListsSpec.pre6 enc Try.prog Try.f4 Rows.fnSingleClassAgreesWithLiteralListsRow.domain false) (Rows.fnSingleClassAgreesWithLiteralListsSpec.post enc Try.prog Try.f4 false true false false) := by
  refine returnsInHanded_of_change (C := Try.checked) own started (by kernel_rfl) Try.func4
    (ChangeSpec.witness6 (enc := enc) (C := Try.checked) false ⟨#[], #[.int .i64 0], []⟩ 8 (by kernel_rfl) (by kernel_rfl) (by kernel_rfl) (by kernel_rfl)) ?_
  intro W base args ds gs before hval0 hW hcnd _
  have hval : ∀ (j : Nat) t v, Try.f4.params[j]? = some t → args[j]? = some v → Value.okWide Try.prog W .any base t v := hval0
  have hW' := hW
  obtain ⟨p, q, hA0, hV, rfl, hfz, hnd⟩ := hW
  have hA : DataW.TrodAll enc Try.prog W 0 (fun _ => true) true Try.f4.params.toList args.toList ds p := hA0
  rw [Try.params4] at hA hval
  obtain ⟨v0, vs0, d0, ds0, p0, q0, hargs, rfl, rfl, h0, r0⟩ := trodAll_cons hA
  obtain ⟨rfl, rfl, rfl⟩ := trodAll_nil r0
  obtain rfl : args = #[v0] := by cases args; simp_all
  obtain ⟨rfl, rfl⟩ := trodVars_none hV
  obtain ⟨a0, rfl, rfl, rfl, w0⟩ := open_int Try.underlying3 (hval 0 3 v0 rfl rfl) h0
  clear hA0 hval0
  simp only [List.append_nil] at hW'
  refine (walk a0 w0 W).mono fun e W' ⟨he, hg⟩ => ?_
  subst he
  exact ⟨_, rfl, post_of_same (pa := []) (pv := []) hW' (fun _ _ _ => (trodAll_cons_mk (shut_bool Try.underlying4 _) trodAll_mk0)) (fun sp _ => (trodAll_cons_mk (shut_int Try.underlying3 w0) trodAll_mk0)) (fun _ _ => rfl) rfl
    (hg.frame _) hg.2.1 (ok_one (by kernel_rfl) rfl (okWide_bool_mk Try.underlying4 _))⟩

theorem over : Rows.fnSingleClassAgreesWithLiteralListsRow.holds Try.pinned (OpenSpec.ofChange Rows.fnSingleClassAgreesWithLiteralListsSpec) :=
  OpenClaim.holds_of_wide 4 Try.f4 rfl rfl rfl rfl rfl rfl rfl ⟨rfl, rfl, rfl, rfl, rfl⟩ rfl rfl rfl rfl rfl (by kernel_rfl) Try.func4 (by kernel_rfl)
    (of_decide_eq_true (by kernel_rfl)) (by unfold Func.isWrapper; first | (rw [if_pos (by decide +kernel)]; kernel_rfl) | (rw [if_neg (by decide +kernel)]; exact ⟨rfl, rfl⟩))
    (fun os started H enc _ => lifted os started H enc)

/-- ████ THE STATEMENT ████ -/
theorem proved : Rows.FnSingleClassAgreesWithLiteralListsSaid :=
  over
#print axioms proved
end Go.Proofs.Ytkkafhbdfflanaa.fnSingleClassAgreesWithLiteralLists
