/-
  The given statement on FnNewMatchStateIndependent: for every input the law returns true and leaves its arguments as they were. No condition beyond the statement's own.
  The frame was written by the kit's proof-skeleton.
-/
import Derived.Test.YtidgncgjjiigpaaHelp93
import Derived.Test.YtidgncgjjiigpaaRows
import Derived.WalkKit
import Derived.ProofKit
import Derived.OpenShut
import Derived.Below
import Derived.ShutString
namespace Go.Proofs.Ytidgncgjjiigpaa.fnNewMatchStateIndependent
open Go.ChangeShapes Go.WideShapes Go.ChangeAt Go.RowKit
open Go.ChangeMaps (open_string shut_string)
set_option linter.unusedVariables false      -- a walk need not use every 'w<i>' (that an integer argument fits its kind)

theorem own : ownKnob Try.prog.godebug = none := by kernel_rfl

set_option maxHeartbeats 1000000

/-! ### STEP 1: THE WALK: the Go text returns true. 'Grown w w'': the world has at most new blocks (Derived/RowKit3.lean). Part the cases AHEAD of 'go_enter' where a test parts the walk; take each callee by a contract of your own. -/
theorem walk (a0 : Int) (a1 : Int) (w0 : (Lit.int .i64 a0).wf = true) (w1 : (Lit.int .i64 a1).wf = true) (w : World) :
    Calls Try.prog 3 #[.int .i64 a0, .int .i64 a1] w fun e w' => e = .returned (.bool true) ∧ Below w.heap.size w w' := by
  rcases (show a0 < 0 ∨ (0 ≤ a0 ∧ 65536 < a0) ∨ (0 ≤ a0 ∧ a0 ≤ 65536) by omega) with q | ⟨q, q'⟩ | ⟨q, q'⟩
  · have tn : decide (a0 < 0) = true := decide_eq_true q
    go_enter Try.func3, Try.ntmps3
    go_wp2_with fail
    go_ret
    exact ⟨rfl, Below.refl _ _⟩
  · have tn : decide (a0 < 0) = false := decide_eq_false (by omega)
    have tm : decide (65536 < a0) = true := decide_eq_true q'
    go_enter Try.func3, Try.ntmps3
    go_wp2_with fail
    go_ret
    exact ⟨rfl, Below.refl _ _⟩
  · obtain ⟨s, rfl⟩ : ∃ k : Nat, a0 = (k : Int) := ⟨a0.toNat, by omega⟩
    have hs : s ≤ 65536 := by omega
    have tn : decide ((s : Int) < 0) = false := decide_eq_false (by omega)
    have tm : decide (65536 < (s : Int)) = false := decide_eq_false (by omega)
    clear q q'
    go_enter Try.func3, Try.ntmps3
    go_wp2_with fail
    refine (zzNewM_any _).mono ?_
    rintro e w1 ⟨rfl, hm1, hb1, hz1⟩
    have HM1 := Lib.hid hm1
    have HB1 := Lib.hid hb1
    have HZ1 := Lib.hid hz1
    clear hm1 hb1 hz1
    go_wp2_with fail
    refine (zzNewM_any _).mono ?_
    rintro e w2 ⟨rfl, hm2, hb2, hz2⟩
    have HM2 := Lib.hid hm2
    have HB2 := Lib.hid hb2
    have HZ2 := Lib.hid hz2
    have hz1 := HZ1.out
    have hk1 : MD w2 (w.heap.size + 1) (some ⟨w.heap.size, 0, none⟩) 0 [] := HM1.out.kept (hb2.block _ (by omega)) (fun g hg => hb2.block _ (by simp only [blkOf, Option.map_some, Option.some.injEq] at hg; omega))
    have heq := md_differ hk1 hm2 (by omega)
    have HK1 := Lib.hid hk1
    clear hm2 hb2 hz2 hk1 hz1
    go_wp2_with fail
    refine (zzAdd_any a1 HK1.out (by omega)).mono ?_
    rintro e w3 ⟨rfl, ao', cap', hm3, hv3⟩
    have hk2 : MD w3 (w1.heap.size + 1) (some ⟨w1.heap.size, 0, none⟩) 0 [] := HM2.out.kept (hv3.block _ HM2.out.lt (by have := HZ1.out; omega) (by have := HZ1.out; simp only [blkOf, Option.map_some, ne_eq, Option.some.injEq]; omega)) (fun g hg => by
      simp only [blkOf, Option.map_some, Option.some.injEq] at hg
      subst hg
      exact hv3.block _ (by have := HZ2.out; omega) (by have := HZ1.out; omega) (by have := HZ1.out; simp only [blkOf, Option.map_some, ne_eq, Option.some.injEq]; omega))
    have HK2 := Lib.hid hk2
    have HM3 := Lib.hid hm3
    have hlen : ((((ext [] (s + 2)).set s (posW a1)).set (s + 1) (posW a1)).length : Int) = (s : Int) + 2 := by simp [length_ext]
    have HL := Lib.hid hlen
    have HB := Lib.hid (HB1.out.trans ((HB2.out.mono HB1.out.size).trans (hv3.below (B := w.heap.size) (by omega) (fun g hg => by simp only [blkOf, Option.map_some, Option.some.injEq] at hg; omega) (by have := HZ1.out; have := HZ2.out; omega))))
    clear heq hk2 hm3 hv3 hlen
    go_wp2_with fail
    refine (capLen_any HK2.out).mono ?_
    rintro e w' ⟨rfl, rfl⟩
    go_wp2_with fail
    refine (capLen_any HM3.out).mono ?_
    rintro e w' ⟨rfl, rfl⟩
    rw [HL.out]
    go_wp2_with fail
    go_ret
    exact ⟨rfl, HB.out⟩

/-! ### THE ROW's STEP: WRITTEN OUT: LEAVE IT -/
set_option maxRecDepth 100000 in
theorem lifted (os : Os) (started : os.Started) (H : Type) (enc : TypeId × Value → H) :
    ReturnsInHanded {} Try.checked os 3 .any (Rows.fnNewMatchStateIndependentSpec.pre6 enc Try.prog Try.f3 Rows.fnNewMatchStateIndependentRow.domain false) (Rows.fnNewMatchStateIndependentSpec.post enc Try.prog Try.f3 false true false false) := by
  refine returnsInHanded_of_change (C := Try.checked) own started (by kernel_rfl) Try.func3
    (ChangeSpec.witness6 (enc := enc) (C := Try.checked) false ⟨#[], #[.int .i64 0, .int .i64 0], []⟩ 8 (by kernel_rfl) (by kernel_rfl) (by kernel_rfl) (by kernel_rfl)) ?_
  intro W base args ds gs before hval0 hW hcnd _
  have hval : ∀ (j : Nat) t v, Try.f3.params[j]? = some t → args[j]? = some v → Value.okWide Try.prog W .any base t v := hval0
  have hW' := hW
  obtain ⟨p, q, hA0, hV, rfl, hfz, hnd⟩ := hW
  have hA : DataW.TrodAll enc Try.prog W 0 (fun _ => true) true Try.f3.params.toList args.toList ds p := hA0
  rw [Try.params3] at hA hval
  obtain ⟨v0, vs0, d0, ds0, p0, q0, hargs, rfl, rfl, h0, r0⟩ := trodAll_cons hA
  obtain ⟨v1, vs1, d1, ds1, p1, q1, rfl, rfl, rfl, h1, r1⟩ := trodAll_cons r0
  obtain ⟨rfl, rfl, rfl⟩ := trodAll_nil r1
  obtain rfl : args = #[v0, v1] := by cases args; simp_all
  obtain ⟨rfl, rfl⟩ := trodVars_none hV
  obtain ⟨a0, rfl, rfl, rfl, w0⟩ := open_int Try.underlying3 (hval 0 3 v0 rfl rfl) h0
  obtain ⟨a1, rfl, rfl, rfl, w1⟩ := open_int Try.underlying3 (hval 1 3 v1 rfl rfl) h1
  clear hA0 hval0
  simp only [List.append_nil] at hW'
  refine (walk a0 a1 w0 w1 W).mono fun e W' ⟨he, hg⟩ => ?_
  subst he
  exact ⟨_, rfl, _, _, _, [], [], [], hW', (trodAll_cons_mk (shut_bool Try.underlying4 _) trodAll_mk0), (trodAll_cons_mk (shut_int Try.underlying3 w0) (trodAll_cons_mk (shut_int Try.underlying3 w1) trodAll_mk0)), rfl, hg.frame _, fun h => by cases h⟩

theorem over : Rows.fnNewMatchStateIndependentRow.holds Try.pinned (OpenSpec.ofChange Rows.fnNewMatchStateIndependentSpec) :=
  OpenClaim.holds_of_wide 3 Try.f3 rfl rfl rfl rfl rfl rfl rfl ⟨rfl, rfl, rfl, rfl, rfl⟩ rfl rfl rfl rfl rfl (by kernel_rfl) Try.func3 (by kernel_rfl)
    (of_decide_eq_true (by kernel_rfl)) (by unfold Func.isWrapper; first | (rw [if_pos (by decide +kernel)]; kernel_rfl) | (rw [if_neg (by decide +kernel)]; exact ⟨rfl, rfl⟩))
    (fun os started H enc _ => lifted os started H enc)

/-- ████ THE STATEMENT ████ -/
theorem proved : Rows.FnNewMatchStateIndependentSaid :=
  over
#print axioms proved
end Go.Proofs.Ytidgncgjjiigpaa.fnNewMatchStateIndependent
