/-
  The given statement on FnNodeSettersCommuteAndIdempotent: for every input the law returns true and leaves its arguments as they were. No condition beyond the statement's own.
  The frame was written by the kit's proof-skeleton.
-/
import Derived.Test.YtdfjldbnpmdjcaaNode
import Derived.Test.YtdfjldbnpmdjcaaRows
import Derived.WalkKit
import Derived.ProofKit
import Derived.OpenShut
import Derived.ShutString
namespace Go.Proofs.Ytdfjldbnpmdjcaa.fnNodeSettersCommuteAndIdempotent
open Go.ChangeShapes Go.WideShapes Go.ChangeAt Go.RowKit
open Go.ChangeMaps (open_string shut_string)
set_option linter.unusedVariables false      -- a walk need not use every 'w<i>' (that an integer argument fits its kind)

theorem own : ownKnob Try.prog.godebug = none := by kernel_rfl

set_option maxHeartbeats 4000000
set_option maxRecDepth 100000

/-! ### STEP 1: THE WALK: the Go text returns true. 'Grown w w'': the world has at most new blocks (Derived/RowKit3.lean). Part the cases AHEAD of 'go_enter' where a test parts the walk; take each callee by a contract of your own. -/
theorem walk (a0 : Int) (a1 : Int) (w0 : (Lit.int .i64 a0).wf = true) (w1 : (Lit.int .i64 a1).wf = true) (w : World) :
    Calls Try.prog 4 #[.int .i64 a0, .int .i64 a1] w fun e w' => e = .returned (.bool true) ∧ Grown w w' := by
  have a24 := Try.isAgg24
  have z24 := Try.sizeOf24
  have e24 : Try.prog.eqGuardType Try.prog.depth 24 = false := by kernel_rfl
  go_enter Try.func4, Try.ntmps4
  repeat (go_wp2; go_end0)
  go_wp2
  go_quiet (fail)
  repeat (go_wp2; go_end0)
  go_wp2
  generalize hwv : World.alloc (World.drewN _ _) _ = wv
  have hG : Grown w wv := by subst hwv; repeat (first | exact Grown.refl _ | apply Grown.drewN | apply Grown.drew | apply Grown.alloc)
  have b0 : wv.heap[w.heap.size]? = some (.cells #[.int .i64 a0, .int .i64 a1] 24 (0, 0)) := by subst hwv; exact blk_alloc (blk_drewN (blk_alloc (blk_new w _) _) _) _
  have b2 : wv.heap[w.heap.size + 1 + 1]? = some (.cells #[.int .i64 a0, .int .i64 a1, .string ⟨#[49]⟩] 34 (0, 0)) := by
    have hsz : ∀ (x : World) (o : Obj), x.heap.size = w.heap.size + 1 + 1 → (x.alloc o).heap[w.heap.size + 1 + 1]? = some o := fun x o h => h ▸ blk_new x o
    subst hwv
    exact hsz _ _ (by show ((w.alloc _).alloc _).heap.size = _; simp)
  have c0 := blk_cell b0 0 _ rfl
  have c1 := blk_cell b0 1 _ rfl
  have d0 := blk_cell b2 0 _ rfl
  have d1 := blk_cell b2 1 _ rfl
  have HB0 := Lib.hid b0
  have HB2 := Lib.hid b2
  have HG := Lib.hid hG
  clear b0 b2 hG hwv
  go_quiet ((first | (go_at_call 6; exact Calls.quiet_of_same ((line_any (blk_cell (blk_drewN HB2.out _) 0 _ rfl)).mono fun _ _ h => ⟨h.1, h.2.symm⟩)) | (go_at_call 7; exact Calls.quiet_of_same ((last_any (blk_cell (blk_drewN HB2.out _) 1 _ rfl)).mono fun _ _ h => ⟨h.1, h.2.symm⟩))))
  generalize hwu : World.drewN wv _ = wu
  have HB3 : Hid (wu.heap[w.heap.size]? = some (.cells #[.int .i64 a0, .int .i64 a1] 24 (0, 0))) := by subst hwu; exact Lib.hid (blk_drewN HB0.out _)
  have HG2 : Hid (Grown w wu) := by subst hwu; exact Lib.hid (by have h := HG.out; constructor <;> first | exact h.1 | exact h.2 | exact h.3 | exact h.4 | exact h.5)
  clear hwu c0 c1 d0 d1
  have c0 : wu.cell? ⟨w.heap.size, 0, none⟩ = some (.int .i64 a0) := blk_cell HB3.out 0 _ rfl
  have c1 : wu.cell? ⟨w.heap.size, 1, none⟩ = some (.int .i64 a1) := blk_cell HB3.out 1 _ rfl
  have k0 : ∀ o, (wu.alloc o).cell? ⟨w.heap.size, 0, none⟩ = some (.int .i64 a0) := fun o => blk_cell (blk_alloc HB3.out o) 0 _ rfl
  have k1 : ∀ o, (wu.alloc o).cell? ⟨w.heap.size, 1, none⟩ = some (.int .i64 a1) := fun o => blk_cell (blk_alloc HB3.out o) 1 _ rfl
  repeat (go_wp2; go_end0)
  go_wp2
  go_ret
  exact ⟨rfl, by repeat (first | exact HG2.out | apply Grown.drew | apply Grown.alloc)⟩

/-! ### THE ROW's STEP: WRITTEN OUT: LEAVE IT -/
set_option maxRecDepth 100000 in
theorem lifted (os : Os) (started : os.Started) (H : Type) (enc : TypeId × Value → H) :
    ReturnsInHanded {} Try.checked os 4 .any (Rows.fnNodeSettersCommuteAndIdempotentSpec.pre6 enc Try.prog Try.f4 Rows.fnNodeSettersCommuteAndIdempotentRow.domain false) (Rows.fnNodeSettersCommuteAndIdempotentSpec.post enc Try.prog Try.f4 false true false false) := by
  refine returnsInHanded_of_change (C := Try.checked) own started (by kernel_rfl) Try.func4
    (ChangeSpec.witness6 (enc := enc) (C := Try.checked) false ⟨#[], #[.int .i64 0, .int .i64 0], []⟩ 8 (by kernel_rfl) (by kernel_rfl) (by kernel_rfl) (by kernel_rfl)) ?_
  intro W base args ds gs before hval0 hW hcnd _
  have hval : ∀ (j : Nat) t v, Try.f4.params[j]? = some t → args[j]? = some v → Value.okWide Try.prog W .any base t v := hval0
  have hW' := hW
  obtain ⟨p, q, hA0, hV, rfl, hfz, hnd⟩ := hW
  have hA : DataW.TrodAll enc Try.prog W 0 (fun _ => true) true Try.f4.params.toList args.toList ds p := hA0
  rw [Try.params4] at hA hval
  obtain ⟨v0, vs0, d0, ds0, p0, q0, hargs, rfl, rfl, h0, r0⟩ := trodAll_cons hA
  obtain ⟨v1, vs1, d1, ds1, p1, q1, rfl, rfl, rfl, h1, r1⟩ := trodAll_cons r0
  obtain ⟨rfl, rfl, rfl⟩ := trodAll_nil r1
  obtain rfl : args = #[v0, v1] := by cases args; simp_all
  obtain ⟨rfl, rfl⟩ := trodVars_none hV
  obtain ⟨a0, rfl, rfl, rfl, w0⟩ := open_int Try.underlying3 (hval 0 3 v0 rfl rfl) h0
  obtain ⟨a1, rfl, rfl, rfl, w1⟩ := open_int Try.underlying3 (hval 1 3 v1 rfl rfl) h1
  clear hA0 hval0
  simp only [List.append_nil] at hW'
  refine (walk a0 a1 w0 w1 W).mono fun e W' ⟨he, hg⟩ => ?_
  subst he
  exact ⟨_, rfl, post_of_same (pa := []) (pv := []) hW' (fun _ _ _ => (trodAll_cons_mk (shut_bool Try.underlying4 _) trodAll_mk0)) (fun sp _ => (trodAll_cons_mk (shut_int Try.underlying3 w0) (trodAll_cons_mk (shut_int Try.underlying3 w1) trodAll_mk0))) (fun _ _ => rfl) rfl
    (hg.frame _) hg.2.1 (ok_one (by kernel_rfl) rfl (okWide_bool_mk Try.underlying4 _))⟩

theorem over : Rows.fnNodeSettersCommuteAndIdempotentRow.holds Try.pinned (OpenSpec.ofChange Rows.fnNodeSettersCommuteAndIdempotentSpec) :=
  OpenClaim.holds_of_wide 4 Try.f4 rfl rfl rfl rfl rfl rfl rfl ⟨rfl, rfl, rfl, rfl, rfl⟩ rfl rfl rfl rfl rfl (by kernel_rfl) Try.func4 (by kernel_rfl)
    (of_decide_eq_true (by kernel_rfl)) (by unfold Func.isWrapper; first | (rw [if_pos (by decide +kernel)]; kernel_rfl) | (rw [if_neg (by decide +kernel)]; exact ⟨rfl, rfl⟩))
    (fun os started H enc _ => lifted os started H enc)

/-- ████ THE STATEMENT ████ -/
theorem proved : Rows.FnNodeSettersCommuteAndIdempotentSaid :=
  over
#print axioms proved
end Go.Proofs.Ytdfjldbnpmdjcaa.fnNodeSettersCommuteAndIdempotent
