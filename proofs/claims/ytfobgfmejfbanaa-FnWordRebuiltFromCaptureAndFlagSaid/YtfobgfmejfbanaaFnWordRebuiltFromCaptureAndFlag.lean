/-
  The given statement on FnWordRebuiltFromCaptureAndFlag: for every input the law returns true and leaves its arguments as they were. No condition beyond the statement's own.
  The frame was written by the kit's proof-skeleton.
-/
import Derived.Test.YtfobgfmejfbanaaHelp5
import Derived.Test.YtfobgfmejfbanaaRows
import Derived.WalkKit
import Derived.ProofKit
import Derived.OpenShut
import Derived.ShutString
import Derived.ChangeOld
import Derived.Below
namespace Go.Proofs.Ytfobgfmejfbanaa.fnWordRebuiltFromCaptureAndFlag
open Go.ChangeShapes Go.WideShapes Go.ChangeAt Go.RowKit
open Go.ChangeMaps (open_string shut_string)
set_option linter.unusedVariables false

theorem own : ownKnob Try.prog.godebug = none := by kernel_rfl
theorem laidOut : laidOutB Try.prog = true := by kernel_rfl

/-- WHAT THE WALK IS TOLD OF A SLICE OF INTEGERS THAT CAME IN: it is nil; or it leads to a row of 'cap' cells, the numbers 'zs' (the first 'len' are its elements, the rest its spare room), each fitting its kind. -/
def IsRow (k : IntKind) (w : World) (a : Option Addr) (len cap : Nat) (zs : List Int) : Prop :=
  (a = none ∧ len = 0 ∧ cap = 0 ∧ zs = []) ∨
  ∃ x, a = some x ∧ len ≤ cap ∧ cap ≤ maxLen ∧ zs.length = cap ∧ (∀ i, i < zs.length → w.cell? (x.add i) = some (.int k (zs.getD i 0))) ∧ ∀ n ∈ zs, (Lit.int k n).wf = true

/-- What 'IsRow' says, over the elements alone. -/
theorem isRow_told {k : IntKind} {w : World} {a : Option Addr} {len cap : Nat} {zs : List Int} (h : IsRow k w a len cap zs) :
    ∃ ys : List Int, ys.length = len ∧ RowInt k w a ys ∧ (a = none → ys.length = 0) ∧ len ≤ 9223372036854775807 ∧ (∀ n, n ∈ ys → (Lit.int k n).wf = true) := by
  rcases h with ⟨rfl, rfl, rfl, rfl⟩ | ⟨x, rfl, hl, hm, hz, hcell, hwz⟩
  · exact ⟨[], rfl, fun h0 => absurd h0 (Nat.lt_irrefl _), fun _ => rfl, by omega, fun n hn => by simp at hn⟩
  · refine ⟨zs.take len, by simp; omega, fun h0 => ?_, fun h0 => (by cases h0), by unfold maxLen at hm; omega, fun n hn => hwz n (List.mem_of_mem_take hn)⟩
    have h0' : 0 < len := by simp at h0; omega
    have hsp : x.spot = none := by simpa [Addr.add] using World.cell?_spot (hcell 0 (by omega))
    obtain ⟨b, off, spot⟩ := x
    simp only at hsp
    subst hsp
    refine ⟨b, off, rfl, fun i hi => ?_⟩
    have h1 := hcell i (by simp at hi; omega)
    rw [addr_add] at h1
    rw [h1]
    simp only [List.length_take] at hi
    rw [List.getD_eq_getElem?_getD, List.getD_eq_getElem?_getD, List.getElem?_take_of_lt (by omega)]

set_option maxHeartbeats 2000000
set_option maxRecDepth 100000

/-! ### STEP 1: THE WALK: the Go text returns true, AND WRITES NOTHING THAT WAS THERE: 'Below w.heap.size w w'' (Derived/Below.lean: '.refl', '.alloc', '.drew', '.setCell' at a new block, '.trans'). Open each 'IsRow' by 'rcases' AHEAD of 'go_enter'; part every test ahead of the walk. -/
theorem walk (a0 : Option Addr) (len0 cap0 : Nat) (z0 : List Int) (w : World) (w0 : IsRow .u32 w a0 len0 cap0 z0) :
    Calls Try.prog 3 #[.slice a0 len0 cap0] w fun e w' => e = .returned (.bool true) ∧ Below w.heap.size w w' := by
  obtain ⟨ys, rfl, hrow, hnil, hlen, hwf⟩ := isRow_told w0
  have HW := Lib.hid (fun z hz => u32_bd (hwf z hz) : ∀ z, z ∈ ys → 0 ≤ z ∧ z < 4294967296)
  have HR := Lib.hid hrow
  have HNI := Lib.hid hnil
  clear w0 hwf hrow hnil
  rcases (show 1048576 < ys.length ∨ (ys.length ≤ 1048576 ∧ 65536 < ys.length) ∨ ys.length ≤ 65536 by omega) with q | ⟨q, q'⟩ | q
  · have tb : decide (ys.length ≤ 1048576) = false := decide_eq_false (by omega)
    go_enter Try.func3, Try.ntmps3
    go_wp2_with (go_at_call 7; refine (g1_any _ _ _ hlen _).mono ?_; rintro e w' ⟨rfl, rfl⟩)
    go_ret
    exact ⟨rfl, Below.refl _ _⟩
  · have tb : decide (ys.length ≤ 1048576) = true := decide_eq_true q
    go_enter Try.func3, Try.ntmps3
    go_wp2_with (go_at_call 7; refine (g1_any _ _ _ hlen _).mono ?_; rintro e w' ⟨rfl, rfl⟩)
    go_ret
    exact ⟨rfl, Below.refl _ _⟩
  · have tb : decide (ys.length ≤ 1048576) = true := decide_eq_true (by omega)
    go_enter Try.func3, Try.ntmps3
    go_wp2_with (go_at_call 7; refine (g1_any _ _ _ hlen _).mono ?_; rintro e w' ⟨rfl, rfl⟩)
    refine (copyU_any a0 cap0 ys _ HR.out HNI.out (by omega)).mono ?_
    rintro e w1 ⟨a1', c1', rfl, hf1, ho1, hr1, hb1⟩
    have HF1 := Lib.hid hf1
    have HR1 := Lib.hid hr1
    have HB1 := Lib.hid hb1
    have HO1 := Lib.hid ho1
    clear hf1 hr1 hb1 ho1
    go_wp2_with fail
    refine (copyU_any a1' c1' ys _ HR1.out (own_nil HO1.out) (by omega)).mono ?_
    rintro e w2 ⟨a2, c2, rfl, hf2, ho2, hr2, hb2⟩
    have HF2 := Lib.hid hf2
    have HO2 := Lib.hid ho2
    have HR2 := Lib.hid (HR1.out.below hb2 (Nat.le_refl _))
    have HB2 := Lib.hid (HB1.out.trans (hb2.mono HB1.out.size))
    clear hf2 hr2 hb2 ho2
    go_wp2_with fail
    refine (zzND_any _ _ _ _).mono ?_
    rintro e w3 ⟨rfl, rfl⟩
    have HM := Lib.hid (MD.new (owns_base HO2.out (Nat.zero_le _)) HW.out (by omega))
    have HB3 := Lib.hid (HB2.out.alloc HB2.out.size (.cells #[.slice a2 ys.length c2] 44))
    have HR3 := Lib.hid (HR2.out.below ((Below.refl w2.heap.size w2).alloc (Nat.le_refl _) (.cells #[.slice a2 ys.length c2] 44)) (Nat.le_refl _))
    generalize w2.alloc (.cells #[.slice a2 ys.length c2] 44) = w3 at *
    generalize hgg : w2.heap.size = mm at *
    clear hgg
    go_wp2_with fail
    refine (capLen_any HM.out).mono ?_
    rintro e w' ⟨rfl, rfl⟩
    go_wp2_with fail
    go_loop [4] (fun i => ∃ k : Nat, k ≤ ys.length ∧ i = .int .i64 k) (fun i => ys.length - (intOf i).toNat)
    case atStart => exact ⟨0, Nat.zero_le _, rfl⟩
    case round =>
      obtain ⟨k, hk, rfl⟩ := hrel
      by_cases hlt : k < ys.length
      · obtain ⟨sb, so, rfl, hc⟩ := HR3.out (by omega)
        replace hc := hc k hlt
        have hu := HM.out.word k
        obtain ⟨u, hu0⟩ : ∃ u, u = ys.getD k 0 := ⟨_, rfl⟩
        rw [← hu0] at hc hu
        obtain ⟨c, hcd⟩ : ∃ c, c = u / 2 := ⟨_, rfl⟩
        have HC : Hid (ys.getD k 0 / 2 = c) := by unfold Hid; rw [← hu0]; exact hcd.symm
        rcases (show u % 2 = 0 ∨ u % 2 = 1 by omega) with hm | hm
        · have HI : Hid ((ys.getD k 0 % 2 == 1) = false) := by unfold Hid; rw [← hu0, hm]; rfl
          obtain rfl : u = c * 2 := by omega
          have hc1 : 0 ≤ c := by omega
          have hc2 : c ≤ 2147483647 := by omega
          clear hu hu0 hcd hm
          go_wp2_with (first | (go_at_call 12; refine (isPos_is k _ HM.out hlt HI).mono ?_; rintro e w' ⟨rfl, rfl⟩) | (go_at_call 11; refine (cap_is k _ HM.out hlt HC).mono ?_; rintro e w' ⟨rfl, rfl⟩))
          go_round
          case rel => exact ⟨k + 1, by omega, by go_num⟩
          case measure => first | (simp [intOf]; done) | (simp [intOf]; omega)
        · have HI : Hid ((ys.getD k 0 % 2 == 1) = true) := by unfold Hid; rw [← hu0, hm]; rfl
          obtain rfl : u = c * 2 + 1 := by omega
          have hc1 : 0 ≤ c := by omega
          have hc2 : c ≤ 2147483647 := by omega
          clear hu hu0 hcd hm
          go_wp2_with (first | (go_at_call 12; refine (isPos_is k _ HM.out hlt HI).mono ?_; rintro e w' ⟨rfl, rfl⟩) | (go_at_call 11; refine (cap_is k _ HM.out hlt HC).mono ?_; rintro e w' ⟨rfl, rfl⟩))
          go_round
          case rel => exact ⟨k + 1, by omega, by go_num⟩
          case measure => first | (simp [intOf]; done) | (simp [intOf]; omega)
      · go_wp2_with fail
        go_ret
        exact ⟨rfl, HB3.out⟩

/-! ### THE ROW's STEP: WRITTEN OUT: LEAVE IT -/
set_option maxRecDepth 100000 in
theorem lifted (os : Os) (started : os.Started) (H : Type) (enc : TypeId × Value → H) :
    ReturnsInHanded {} Try.checked os 3 .any (Rows.fnWordRebuiltFromCaptureAndFlagSpec.pre6 enc Try.prog Try.f3 Rows.fnWordRebuiltFromCaptureAndFlagRow.domain false) (Rows.fnWordRebuiltFromCaptureAndFlagSpec.post enc Try.prog Try.f3 false true false false) := by
  refine returnsInHanded_of_change (C := Try.checked) own started (by kernel_rfl) Try.func3
    (ChangeSpec.witness6 (enc := enc) (C := Try.checked) false ⟨#[], #[.slice none 0 0], []⟩ 8 (by kernel_rfl) (by kernel_rfl) (by kernel_rfl) (by kernel_rfl)) ?_
  intro W base args ds gs before hval0 hW hcnd _
  have hval : ∀ (j : Nat) t v, Try.f3.params[j]? = some t → args[j]? = some v → Value.okWide Try.prog W .any base t v := hval0
  have hW' := hW
  obtain ⟨p, q, hA0, hV, rfl, hfz, hnd⟩ := hW
  have hA : DataW.TrodAll enc Try.prog W 0 (fun _ => true) true Try.f3.params.toList args.toList ds p := hA0
  rw [Try.params3] at hA hval
  obtain ⟨v0, vs0, d0, ds0, p0, q0, hargs, rfl, rfl, h0, r0⟩ := trodAll_cons hA
  obtain ⟨rfl, rfl, rfl⟩ := trodAll_nil r0
  obtain rfl : args = #[v0] := by cases args; simp_all
  obtain ⟨rfl, rfl⟩ := trodVars_none hV
  obtain ⟨a0, len0, cap0, rfl⟩ := okWide_slice Try.underlying22 (hval 0 22 v0 rfl rfl)
  have k0 := h0
  have lt0 : ∀ x ∈ p0, x.block < W.heap.size := by obtain ⟨m, hm⟩ := k0; exact DataW.trod_lt m _ _ _ hm
  obtain ⟨z0, w0⟩ : ∃ zs, IsRow .u32 W a0 len0 cap0 zs := by
    obtain ⟨fuel, hf⟩ := h0
    rcases open_ints Try.underlying22 Try.underlying29 (by kernel_rfl) hf with ⟨hcs, _⟩ | ⟨x, l, c, zs, hcs, _, hl, hm, hz, _, hcell, hwz⟩
    · simp [Value.cells] at hcs
      obtain ⟨rfl, rfl, rfl⟩ := hcs
      exact ⟨[], .inl ⟨rfl, rfl, rfl, rfl⟩⟩
    · simp [Value.cells] at hcs
      obtain ⟨rfl, rfl, rfl⟩ := hcs
      exact ⟨zs, .inr ⟨_, rfl, hl, hm, by simpa using hz, hcell, hwz⟩⟩
  clear hA0 hval0
  refine (walk a0 len0 cap0 z0 W w0).mono fun e W' ⟨he, bel⟩ => ?_
  subst he
  exact ⟨_, rfl, _, _, _, [], _, [], hW', trodAll_mk1 (shut_bool Try.underlying4 _), (trodAll_cons_mk (Below.trod laidOut (by kernel_rfl) (of_decide_eq_true (by kernel_rfl)) k0 bel lt0) trodAll_mk0), rfl, bel.frame _, fun h => by cases h⟩

theorem over : Rows.fnWordRebuiltFromCaptureAndFlagRow.holds Try.pinned (OpenSpec.ofChange Rows.fnWordRebuiltFromCaptureAndFlagSpec) :=
  OpenClaim.holds_of_wide 3 Try.f3 rfl rfl rfl rfl rfl rfl rfl ⟨rfl, rfl, rfl, rfl, rfl⟩ rfl rfl rfl rfl rfl (by kernel_rfl) Try.func3 (by kernel_rfl)
    (of_decide_eq_true (by kernel_rfl)) (by unfold Func.isWrapper; first | (rw [if_pos (by decide +kernel)]; kernel_rfl) | (rw [if_neg (by decide +kernel)]; exact ⟨rfl, rfl⟩))
    (fun os started H enc _ => lifted os started H enc)

/-- ████ THE STATEMENT ████ -/
theorem proved : Rows.FnWordRebuiltFromCaptureAndFlagSaid := over
#print axioms proved
end Go.Proofs.Ytfobgfmejfbanaa.fnWordRebuiltFromCaptureAndFlag
