/-
  The given statement on FnRestoreWithoutSaveRewindsToStart: for every input the law returns true and leaves its arguments as they were. No condition beyond the statement's own.
  The frame was written by the kit's proof-skeleton.
-/
import Derived.Test.YtjhhnkfjidgooaaHelp91
import Derived.Test.YtjhhnkfjidgooaaRows
import Derived.WalkKit
import Derived.ProofKit
import Derived.OpenShut
import Derived.ShutString
import Derived.ChangeOld
import Derived.Below
namespace Go.Proofs.Ytjhhnkfjidgooaa.fnRestoreWithoutSaveRewindsToStart
open Go.ChangeShapes Go.WideShapes Go.ChangeAt Go.RowKit
open Go.ChangeMaps (open_string shut_string)
set_option linter.unusedVariables false

theorem own : ownKnob Try.prog.godebug = none := by kernel_rfl
theorem laidOut : laidOutB Try.prog = true := by kernel_rfl

/-- WHAT THE WALK IS TOLD OF A SLICE OF INTEGERS THAT CAME IN: it is nil; or it leads to a row of 'cap' cells, the numbers 'zs' (the first 'len' are its elements, the rest its spare room), each fitting its kind. -/
def IsRow (k : IntKind) (w : World) (a : Option Addr) (len cap : Nat) (zs : List Int) : Prop :=
  (a = none ∧ len = 0 ∧ cap = 0 ∧ zs = []) ∨
  ∃ x, a = some x ∧ len ≤ cap ∧ cap ≤ maxLen ∧ zs.length = cap ∧ (∀ i, i < zs.length → w.cell? (x.add i) = some (.int k (zs.getD i 0))) ∧ ∀ n ∈ zs, (Lit.int k n).wf = true

/-- What 'IsRow' says, over the elements alone. -/
theorem isRow_told {k : IntKind} {w : World} {a : Option Addr} {len cap : Nat} {zs : List Int} (h : IsRow k w a len cap zs) :
    ∃ ys : List Int, ys.length = len ∧ RowInt k w a ys ∧ (a = none → ys.length = 0) ∧ len ≤ 9223372036854775807 ∧ (∀ n, n ∈ ys → (Lit.int k n).wf = true) := by
  rcases h with ⟨rfl, rfl, rfl, rfl⟩ | ⟨x, rfl, hl, hm, hz, hcell, hwz⟩
  · exact ⟨[], rfl, fun h0 => absurd h0 (Nat.lt_irrefl _), fun _ => rfl, by omega, fun n hn => by simp at hn⟩
  · refine ⟨zs.take len, by simp; omega, fun h0 => ?_, fun h0 => (by cases h0), by unfold maxLen at hm; omega, fun n hn => hwz n (List.mem_of_mem_take hn)⟩
    have h0' : 0 < len := by simp at h0; omega
    have hsp : x.spot = none := by simpa [Addr.add] using World.cell?_spot (hcell 0 (by omega))
    obtain ⟨b, off, spot⟩ := x
    simp only at hsp
    subst hsp
    refine ⟨b, off, rfl, fun i hi => ?_⟩
    have h1 := hcell i (by simp at hi; omega)
    rw [addr_add] at h1
    rw [h1]
    simp only [List.length_take] at hi
    rw [List.getD_eq_getElem?_getD, List.getD_eq_getElem?_getD, List.getElem?_take_of_lt (by omega)]

set_option maxHeartbeats 1000000

/-! ### STEP 1: THE WALK: the Go text returns true, AND WRITES NOTHING THAT WAS THERE: 'Below w.heap.size w w'' (Derived/Below.lean: '.refl', '.alloc', '.drew', '.setCell' at a new block, '.trans'). Open each 'IsRow' by 'rcases' AHEAD of 'go_enter'; part every test ahead of the walk. -/
theorem walk (a0 : Option Addr) (len0 cap0 : Nat) (z0 : List Int) (a1 : Int) (w : World) (w0 : IsRow .u8 w a0 len0 cap0 z0) (w1 : (Lit.int .i64 a1).wf = true) :
    Calls Try.prog 5 #[.slice a0 len0 cap0, .int .i64 a1] w fun e w' => e = .returned (.bool true) ∧ Below w.heap.size w w' := by
  obtain ⟨ys, rfl, hrow, hnil, hlen, hwf⟩ := isRow_told w0
  clear w0
  have HW := Lib.hid (fun z hz => u8_bd (hwf z hz) : ∀ z, z ∈ ys → 0 ≤ z ∧ z ≤ 255)
  have HR := Lib.hid hrow
  have HNI := Lib.hid hnil
  clear hwf hrow hnil
  by_cases hb : ys.length ≤ 1048576
  · skip
    have tb : decide (ys.length ≤ 1048576) = true := decide_eq_true hb
    rcases (show (a1 < 0) ∨ (0 ≤ a1 ∧ 65536 < a1) ∨ (0 ≤ a1 ∧ a1 ≤ 65536) by omega) with q0 | ⟨q0, q1⟩ | ⟨q0, q1⟩
    · skip
      have tn0 : decide (a1 < 0) = true := decide_eq_true (by omega)
      go_enter Try.func5, Try.ntmps5
      go_wp2_with (go_at_call 21; refine (g_FnRestoreWithoutSaveRewindsToStart _ _ _ _ hlen _).mono ?_; rintro e w' ⟨rfl, rfl⟩)
      go_ret
      exact ⟨rfl, Below.refl _ _⟩
    · skip
      have tn0 : decide (a1 < 0) = false := decide_eq_false (by omega)
      have tn1 : decide (65536 < a1) = true := decide_eq_true (by omega)
      go_enter Try.func5, Try.ntmps5
      go_wp2_with (go_at_call 21; refine (g_FnRestoreWithoutSaveRewindsToStart _ _ _ _ hlen _).mono ?_; rintro e w' ⟨rfl, rfl⟩)
      go_ret
      exact ⟨rfl, Below.refl _ _⟩
    · skip
      obtain ⟨k0, rfl⟩ : ∃ k : Nat, a1 = (k : Int) := ⟨a1.toNat, by omega⟩
      have hk0 : k0 ≤ 65536 := by omega
      have tn0 : decide ((k0 : Int) < 0) = false := decide_eq_false (by omega)
      have tm0 : decide (65536 < (k0 : Int)) = false := decide_eq_false (by omega)
      clear q0 q1
      have hp0 : 0 ≤ (k0 : Int) := by omega
      go_enter Try.func5, Try.ntmps5
      go_wp2_with (go_at_call 21; refine (g_FnRestoreWithoutSaveRewindsToStart _ _ _ _ hlen _).mono ?_; rintro e w' ⟨rfl, rfl⟩)
      refine (copyB_any a0 cap0 ys _ HR.out HNI.out (by omega)).mono ?_
      rintro e w1 ⟨a', c', rfl, hn1, hf1, hr1, hb1⟩
      have HR1 := Lib.hid hr1
      have HB1 := Lib.hid hb1
      have HF1 := Lib.hid hf1
      clear hr1 hb1 hn1 hf1
      go_wp2_with fail
      refine (zzNew_any a' c' ys w1 HR1.out (by omega) HW.out).mono ?_
      rintro e w2 ⟨rfl, hs2, hb2⟩
      have HS2 := Lib.hid hs2
      have HB2 := Lib.hid hb2
      clear hs2 hb2
      generalize hgg : w1.heap.size = g at *
      have HGG := Lib.hid hgg
      clear hgg
      go_wp2_with fail
      refine (adv_any k0 (by omega) HS2.out).mono ?_
      rintro e w3 ⟨rfl, hs3, hg3⟩
      have HS3 := Lib.hid hs3
      clear hs3
      have HG3 := Lib.hid hg3
      clear hg3
      go_wp2_with fail
      refine (restore_any HS3.out).mono ?_
      rintro e w4 ⟨rfl, hs4, hg4⟩
      have HS4 := Lib.hid hs4
      clear hs4
      have HG4 := Lib.hid hg4
      clear hg4
      go_wp2_with fail
      refine (cur_is (k := 0) HS4.out (by exact posOf_eq (by omega))).mono ?_
      rintro e w' ⟨rfl, rfl⟩
      have hz : posOf ys.length 0 = 0 := rfl
      go_wp2_with fail
      go_loopw [6] (fun i wr => ∃ j : Nat, j ≤ ys.length + 1 ∧ i = .int .i64 j ∧ Scan wr g a' c' ys j 0 ∧ w2.grownBy wr (some g)) (fun i _ => ys.length + 1 - (intOf i).toNat)
      case atStart => exact ⟨0, Nat.zero_le _, rfl, HS4.out, (one_trans HG3.out HG4.out)⟩
      case round =>
        obtain ⟨j, hj, rfl, hs, hg⟩ := hrel
        have HS := Lib.hid hs
        have HG := Lib.hid hg
        clear hs hg
        by_cases hlt : j < ys.length + 1
        · go_wp2_with fail
          refine (next_any HS.out).mono ?_
          rintro e w1' ⟨rfl, hs1, hg1⟩
          have HS1 := Lib.hid hs1
          have HG1 := Lib.hid (one_trans HG.out hg1)
          clear hs1 hg1
          go_wp2_with fail
          refine (byteAt_int a' c' j _ ys rfl (by omega) (by omega) HW.out _ (row_fin HR1.out HF1.out HB2.out HGG.out HG1.out)).mono ?_
          rintro e w' ⟨rfl, rfl⟩
          go_wp2_with fail
          go_roundw
          case rel =>
            refine ⟨j + 1, by omega, by go_num, ?_, HG1.out⟩
            have := HS1.out
            rwa [show min (j + 1) (ys.length + 1) = j + 1 by omega] at this
          case measure => simp [intOf]; omega
        · obtain rfl : j = ys.length + 1 := by omega
          go_wp2_with fail
          go_ret
          exact ⟨rfl, below_fin HB1.out HB2.out HGG.out HG.out⟩
  · skip
    have tb : decide (ys.length ≤ 1048576) = false := decide_eq_false hb
    go_enter Try.func5, Try.ntmps5
    go_wp2_with (go_at_call 21; refine (g_FnRestoreWithoutSaveRewindsToStart _ _ _ _ hlen _).mono ?_; rintro e w' ⟨rfl, rfl⟩)
    go_ret
    exact ⟨rfl, Below.refl _ _⟩

/-! ### THE ROW's STEP: WRITTEN OUT: LEAVE IT -/
set_option maxRecDepth 100000 in
theorem lifted (os : Os) (started : os.Started) (H : Type) (enc : TypeId × Value → H) :
    ReturnsInHanded {} Try.checked os 5 .any (Rows.fnRestoreWithoutSaveRewindsToStartSpec.pre6 enc Try.prog Try.f5 Rows.fnRestoreWithoutSaveRewindsToStartRow.domain false) (Rows.fnRestoreWithoutSaveRewindsToStartSpec.post enc Try.prog Try.f5 false true false false) := by
  refine returnsInHanded_of_change (C := Try.checked) own started (by kernel_rfl) Try.func5
    (ChangeSpec.witness6 (enc := enc) (C := Try.checked) false ⟨#[], #[.slice none 0 0, .int .i64 0], []⟩ 8 (by kernel_rfl) (by kernel_rfl) (by kernel_rfl) (by kernel_rfl)) ?_
  intro W base args ds gs before hval0 hW hcnd _
  have hval : ∀ (j : Nat) t v, Try.f5.params[j]? = some t → args[j]? = some v → Value.okWide Try.prog W .any base t v := hval0
  have hW' := hW
  obtain ⟨p, q, hA0, hV, rfl, hfz, hnd⟩ := hW
  have hA : DataW.TrodAll enc Try.prog W 0 (fun _ => true) true Try.f5.params.toList args.toList ds p := hA0
  rw [Try.params5] at hA hval
  obtain ⟨v0, vs0, d0, ds0, p0, q0, hargs, rfl, rfl, h0, r0⟩ := trodAll_cons hA
  obtain ⟨v1, vs1, d1, ds1, p1, q1, rfl, rfl, rfl, h1, r1⟩ := trodAll_cons r0
  obtain ⟨rfl, rfl, rfl⟩ := trodAll_nil r1
  obtain rfl : args = #[v0, v1] := by cases args; simp_all
  obtain ⟨rfl, rfl⟩ := trodVars_none hV
  obtain ⟨a0, len0, cap0, rfl⟩ := okWide_slice Try.underlying22 (hval 0 22 v0 rfl rfl)
  have k0 := h0
  have lt0 : ∀ x ∈ p0, x.block < W.heap.size := by obtain ⟨m, hm⟩ := k0; exact DataW.trod_lt m _ _ _ hm
  obtain ⟨z0, w0⟩ : ∃ zs, IsRow .u8 W a0 len0 cap0 zs := by
    obtain ⟨fuel, hf⟩ := h0
    rcases open_ints Try.underlying22 Try.underlying5 (by kernel_rfl) hf with ⟨hcs, _⟩ | ⟨x, l, c, zs, hcs, _, hl, hm, hz, _, hcell, hwz⟩
    · simp [Value.cells] at hcs
      obtain ⟨rfl, rfl, rfl⟩ := hcs
      exact ⟨[], .inl ⟨rfl, rfl, rfl, rfl⟩⟩
    · simp [Value.cells] at hcs
      obtain ⟨rfl, rfl, rfl⟩ := hcs
      exact ⟨zs, .inr ⟨_, rfl, hl, hm, by simpa using hz, hcell, hwz⟩⟩
  obtain ⟨a1, rfl, rfl, rfl, w1⟩ := open_int Try.underlying3 (hval 1 3 v1 rfl rfl) h1
  clear hA0 hval0
  refine (walk a0 len0 cap0 z0 a1 W w0 w1).mono fun e W' ⟨he, bel⟩ => ?_
  subst he
  exact ⟨_, rfl, _, _, _, [], _, [], hW', trodAll_mk1 (shut_bool Try.underlying4 _), (trodAll_cons_mk (Below.trod laidOut (by kernel_rfl) (of_decide_eq_true (by kernel_rfl)) k0 bel lt0) (trodAll_cons_mk (shut_int Try.underlying3 w1) trodAll_mk0)), rfl, bel.frame _, fun h => by cases h⟩

theorem over : Rows.fnRestoreWithoutSaveRewindsToStartRow.holds Try.pinned (OpenSpec.ofChange Rows.fnRestoreWithoutSaveRewindsToStartSpec) :=
  OpenClaim.holds_of_wide 5 Try.f5 rfl rfl rfl rfl rfl rfl rfl ⟨rfl, rfl, rfl, rfl, rfl⟩ rfl rfl rfl rfl rfl (by kernel_rfl) Try.func5 (by kernel_rfl)
    (of_decide_eq_true (by kernel_rfl)) (by unfold Func.isWrapper; first | (rw [if_pos (by decide +kernel)]; kernel_rfl) | (rw [if_neg (by decide +kernel)]; exact ⟨rfl, rfl⟩))
    (fun os started H enc _ => lifted os started H enc)

/-- ████ THE STATEMENT ████ -/
theorem proved : Rows.FnRestoreWithoutSaveRewindsToStartSaid := over
#print axioms proved
end Go.Proofs.Ytjhhnkfjidgooaa.fnRestoreWithoutSaveRewindsToStart
