/-
  The given statement on FnSetNegationIsComplement: for every input the law returns true and leaves its arguments as they were. No condition beyond the statement's own.
  The frame was written by the kit's proof-skeleton.
-/
import Derived.Test.YtkpnjhnopgbhlaaHelpN
import Derived.Test.YtkpnjhnopgbhlaaRows
import Derived.WalkKit
import Derived.ProofKit
import Derived.OpenShut
import Derived.ShutString
import Derived.ChangeOld
import Derived.Below
namespace Go.Proofs.Ytkpnjhnopgbhlaa.fnSetNegationIsComplement
open Go.ChangeShapes Go.WideShapes Go.ChangeAt Go.RowKit
open Go.ChangeMaps (open_string shut_string)
set_option linter.unusedVariables false

theorem own : ownKnob Try.prog.godebug = none := by kernel_rfl
theorem laidOut : laidOutB Try.prog = true := by kernel_rfl

/-- WHAT THE WALK IS TOLD OF A SLICE OF INTEGERS THAT CAME IN: it is nil; or it leads to a row of 'cap' cells, the numbers 'zs' (the first 'len' are its elements, the rest its spare room), each fitting its kind. -/
def IsRow (k : IntKind) (w : World) (a : Option Addr) (len cap : Nat) (zs : List Int) : Prop :=
  (a = none ∧ len = 0 ∧ cap = 0 ∧ zs = []) ∨
  ∃ x, a = some x ∧ len ≤ cap ∧ cap ≤ maxLen ∧ zs.length = cap ∧ (∀ i, i < zs.length → w.cell? (x.add i) = some (.int k (zs.getD i 0))) ∧ ∀ n ∈ zs, (Lit.int k n).wf = true

/-- What 'IsRow' says, over the elements alone. -/
theorem isRow_told {k : IntKind} {w : World} {a : Option Addr} {len cap : Nat} {zs : List Int} (h : IsRow k w a len cap zs) :
    ∃ ys : List Int, ys.length = len ∧ RowInt k w a ys ∧ (a = none → ys.length = 0) ∧ len ≤ 9223372036854775807 ∧ (∀ n, n ∈ ys → (Lit.int k n).wf = true) := by
  rcases h with ⟨rfl, rfl, rfl, rfl⟩ | ⟨x, rfl, hl, hm, hz, hcell, hwz⟩
  · exact ⟨[], rfl, fun h0 => absurd h0 (Nat.lt_irrefl _), fun _ => rfl, by omega, fun n hn => by simp at hn⟩
  · refine ⟨zs.take len, by simp; omega, fun h0 => ?_, fun h0 => (by cases h0), by unfold maxLen at hm; omega, fun n hn => hwz n (List.mem_of_mem_take hn)⟩
    have h0' : 0 < len := by simp at h0; omega
    have hsp : x.spot = none := by simpa [Addr.add] using World.cell?_spot (hcell 0 (by omega))
    obtain ⟨b, off, spot⟩ := x
    simp only at hsp
    subst hsp
    refine ⟨b, off, rfl, fun i hi => ?_⟩
    have h1 := hcell i (by simp at hi; omega)
    rw [addr_add] at h1
    rw [h1]
    simp only [List.length_take] at hi
    rw [List.getD_eq_getElem?_getD, List.getD_eq_getElem?_getD, List.getElem?_take_of_lt (by omega)]

set_option maxHeartbeats 4000000
set_option maxRecDepth 100000

/-! ### STEP 1: THE WALK: the Go text returns true, AND WRITES NOTHING THAT WAS THERE: 'Below w.heap.size w w'' (Derived/Below.lean: '.refl', '.alloc', '.drew', '.setCell' at a new block, '.trans'). Open each 'IsRow' by 'rcases' AHEAD of 'go_enter'; part every test ahead of the walk. -/
theorem walk (a0 : Option Addr) (len0 cap0 : Nat) (z0 : List Int) (a1 : Option Addr) (len1 cap1 : Nat) (z1 : List Int) (a2 : Option Addr) (len2 cap2 : Nat) (z2 : List Int) (a3 : Int) (w : World) (w0 : IsRow .i64 w a0 len0 cap0 z0) (w1 : IsRow .i64 w a1 len1 cap1 z1) (w2 : IsRow .i64 w a2 len2 cap2 z2) (w3 : (Lit.int .i64 a3).wf = true) :
    Calls Try.prog 4 #[.slice a0 len0 cap0, .slice a1 len1 cap1, .slice a2 len2 cap2, .int .i64 a3] w fun e w' => e = .returned (.bool true) ∧ Below w.heap.size w w' := by
  obtain ⟨cs, rfl, hr0, hn0, hl0, -⟩ := isRow_told w0
  obtain ⟨los, rfl, hr1, hn1, hl1, -⟩ := isRow_told w1
  obtain ⟨his, rfl, hr2, hn2, hl2, -⟩ := isRow_told w2
  have H0 := Lib.hid hr0
  have H1 := Lib.hid hr1
  have H2 := Lib.hid hr2
  have N0 := Lib.hid hn0
  have N1 := Lib.hid hn1
  have N2 := Lib.hid hn2
  clear hr0 hr1 hr2 hn0 hn1 hn2 w0 w1 w2 w3
  by_cases hb : cs.length + los.length + his.length ≤ 1048576
  · have tb : decide (cs.length + los.length + his.length ≤ 1048576) = true := decide_eq_true hb
    go_enter Try.func4, Try.ntmps4
    go_wp2_with (go_at_call 7; refine (gN_any _ _ _ _ _ _ _ _ _ _ hl0 hl1 hl2 _).mono ?_; rintro e w' ⟨rfl, rfl⟩)
    refine (big_any _ _ _ _ _ _ _ _ _ hb _).mono ?_
    rintro e w' ⟨v, rfl, rfl, hv⟩
    have HV := Lib.hid hv
    clear hv tb
    cases v with
    | true =>
      go_wp2_with fail
      go_ret
      exact ⟨rfl, Below.refl _ _⟩
    | false =>
      have hsm := HV.out rfl
      clear HV
      obtain ⟨x0, R0⟩ := range_any a0 cs cap0 w H0.out (by omega)
      obtain ⟨x1, R1⟩ := range_any a1 los cap1 w H1.out (by omega)
      obtain ⟨x2, R2⟩ := range_any a2 his cap2 w H2.out (by omega)
      have R0 := Lib.hid R0
      have R1 := Lib.hid R1
      have R2 := Lib.hid R2
      go_wp2_with fail
      refine R0.out.mono ?_
      rintro e w' ⟨rfl, rfl⟩
      cases x0 with
      | false =>
        go_wp2_with fail
        go_ret
        exact ⟨rfl, Below.refl _ _⟩
      | true =>
      go_wp2_with fail
      refine R1.out.mono ?_
      rintro e w' ⟨rfl, rfl⟩
      cases x1 with
      | false =>
        go_wp2_with fail
        go_ret
        exact ⟨rfl, Below.refl _ _⟩
      | true =>
      go_wp2_with fail
      refine R2.out.mono ?_
      rintro e w' ⟨rfl, rfl⟩
      cases x2 with
      | false =>
        go_wp2_with fail
        go_ret
        exact ⟨rfl, Below.refl _ _⟩
      | true =>
      clear R0 R1 R2
      go_wp2_with fail
      refine (cpI_any a0 cap0 cs _ H0.out N0.out (by omega)).mono ?_
      rintro e w1 ⟨b0, c0, rfl, hn1, hf1, hr1, hb1⟩
      have M0 := Lib.hid hr1
      have HB1 := Lib.hid hb1
      have H1' := Lib.hid (H1.out.below hb1 (Nat.le_refl _))
      have H2' := Lib.hid (H2.out.below hb1 (Nat.le_refl _))
      clear hn1 hf1 hr1 hb1
      go_wp2_with fail
      refine (cpI_any a1 cap1 los _ H1'.out N1.out (by omega)).mono ?_
      rintro e w2 ⟨b1, c1, rfl, hn1, hf1, hr1, hb1⟩
      have M1 := Lib.hid hr1
      have HB2 := Lib.hid (HB1.out.trans (hb1.mono HB1.out.size))
      have M0' := Lib.hid (M0.out.below hb1 (Nat.le_refl _))
      have H2'' := Lib.hid (H2'.out.below hb1 (Nat.le_refl _))
      clear hn1 hf1 hr1 hb1 M0 H1' H2' HB1
      go_wp2_with fail
      refine (cpI_any a2 cap2 his _ H2''.out N2.out (by omega)).mono ?_
      rintro e w3 ⟨b2, c2, rfl, hn1, hf1, hr1, hb1⟩
      have M2 := Lib.hid hr1
      have HB3 := Lib.hid (HB2.out.trans (hb1.mono HB2.out.size))
      have M0 := Lib.hid (M0'.out.below hb1 (Nat.le_refl _))
      have M1' := Lib.hid (M1.out.below hb1 (Nat.le_refl _))
      clear hn1 hf1 hr1 hb1 M0' M1 H2'' HB2
      obtain ⟨r, hr⟩ : ∃ r, setHas false (chrs cs ++ rngs los his) a3 = r := ⟨_, rfl⟩
      have hr' : setHas true (chrs cs ++ rngs los his) a3 = !r := by rw [setHas_not, hr]
      have HR := Lib.hid hr
      have HR' := Lib.hid hr'
      clear hr hr'
      go_wp2_with fail
      refine (zzSet_any false b0 b1 b2 c0 c1 c2 cs los his a3 _ M0.out M1'.out M2.out (by omega) (by omega) (by omega)).mono ?_
      rintro e w4 ⟨rfl, hb4⟩
      rw [HR.out]
      have HB4 := Lib.hid (HB3.out.trans (hb4.mono HB3.out.size))
      have K0 := Lib.hid (M0.out.below hb4 (Nat.le_refl _))
      have K1 := Lib.hid (M1'.out.below hb4 (Nat.le_refl _))
      have K2 := Lib.hid (M2.out.below hb4 (Nat.le_refl _))
      clear hb4
      go_wp2_with fail
      refine (zzSet_any true b0 b1 b2 c0 c1 c2 cs los his a3 _ K0.out K1.out K2.out (by omega) (by omega) (by omega)).mono ?_
      rintro e w5 ⟨rfl, hb5⟩
      rw [HR'.out]
      have HB5 := Lib.hid (HB4.out.trans (hb5.mono HB4.out.size))
      clear hb5
      cases r with
      | false =>
        by_cases q0 : cs.length = 0
        · have t0 : ((cs.length : Int) == 0) = true := by rw [beq_iff_eq]; omega
          by_cases q1 : los.length = 0
          · have t1 : ((los.length : Int) == 0) = true := by rw [beq_iff_eq]; omega
            have Q := Lib.hid (And.intro q0 q1)
            clear q0 q1
            go_wp2
            go_ret
            exact ⟨rfl, HB5.out⟩
          · have t1 : ((los.length : Int) == 0) = false := by rw [beq_eq_false_iff_ne]; omega
            by_cases q2 : his.length = 0
            · have t2 : ((his.length : Int) == 0) = true := by rw [beq_iff_eq]; omega
              have Q := Lib.hid (And.intro q0 q2)
              clear q0 q2
              go_wp2
              go_ret
              exact ⟨rfl, HB5.out⟩
            · have t2 : ((his.length : Int) == 0) = false := by rw [beq_eq_false_iff_ne]; omega
              have Q := Lib.hid q0
              clear q0
              go_wp2
              go_ret
              exact ⟨rfl, HB5.out⟩
        · have t0 : ((cs.length : Int) == 0) = false := by rw [beq_eq_false_iff_ne]; omega
          go_wp2
          go_ret
          exact ⟨rfl, HB5.out⟩
      | true =>
        by_cases q0 : cs.length = 0
        · have t0 : ((cs.length : Int) == 0) = true := by rw [beq_iff_eq]; omega
          have hne : 0 < los.length ∧ 0 < his.length := by
            have hh := HR.out
            rcases Nat.eq_zero_or_pos los.length with h | h
            · rw [List.length_eq_zero_iff.1 q0, List.length_eq_zero_iff.1 h] at hh; simp [setHas, chrs, rngs] at hh
            · rcases Nat.eq_zero_or_pos his.length with h' | h'
              · rw [List.length_eq_zero_iff.1 q0, List.length_eq_zero_iff.1 h'] at hh; simp [setHas, chrs, rngs] at hh
              · exact ⟨h, h'⟩
          have t1 : ((los.length : Int) == 0) = false := by rw [beq_eq_false_iff_ne]; omega
          have t2 : ((his.length : Int) == 0) = false := by rw [beq_eq_false_iff_ne]; omega
          have Q := Lib.hid q0
          clear q0
          go_wp2
          go_ret
          exact ⟨rfl, HB5.out⟩
        · have t0 : ((cs.length : Int) == 0) = false := by rw [beq_eq_false_iff_ne]; omega
          go_wp2
          go_ret
          exact ⟨rfl, HB5.out⟩
  · have tb : decide (cs.length + los.length + his.length ≤ 1048576) = false := decide_eq_false hb
    go_enter Try.func4, Try.ntmps4
    go_wp2_with (go_at_call 7; refine (gN_any _ _ _ _ _ _ _ _ _ _ hl0 hl1 hl2 _).mono ?_; rintro e w' ⟨rfl, rfl⟩)
    go_ret
    exact ⟨rfl, Below.refl _ _⟩

/-! ### THE ROW's STEP: WRITTEN OUT: LEAVE IT -/
set_option maxRecDepth 100000 in
theorem lifted (os : Os) (started : os.Started) (H : Type) (enc : TypeId × Value → H) :
    ReturnsInHanded {} Try.checked os 4 .any (Rows.fnSetNegationIsComplementSpec.pre6 enc Try.prog Try.f4 Rows.fnSetNegationIsComplementRow.domain false) (Rows.fnSetNegationIsComplementSpec.post enc Try.prog Try.f4 false true false false) := by
  refine returnsInHanded_of_change (C := Try.checked) own started (by kernel_rfl) Try.func4
    (ChangeSpec.witness6 (enc := enc) (C := Try.checked) false ⟨#[], #[.slice none 0 0, .slice none 0 0, .slice none 0 0, .int .i64 0], []⟩ 8 (by kernel_rfl) (by kernel_rfl) (by kernel_rfl) (by kernel_rfl)) ?_
  intro W base args ds gs before hval0 hW hcnd _
  have hval : ∀ (j : Nat) t v, Try.f4.params[j]? = some t → args[j]? = some v → Value.okWide Try.prog W .any base t v := hval0
  have hW' := hW
  obtain ⟨p, q, hA0, hV, rfl, hfz, hnd⟩ := hW
  have hA : DataW.TrodAll enc Try.prog W 0 (fun _ => true) true Try.f4.params.toList args.toList ds p := hA0
  rw [Try.params4] at hA hval
  obtain ⟨v0, vs0, d0, ds0, p0, q0, hargs, rfl, rfl, h0, r0⟩ := trodAll_cons hA
  obtain ⟨v1, vs1, d1, ds1, p1, q1, rfl, rfl, rfl, h1, r1⟩ := trodAll_cons r0
  obtain ⟨v2, vs2, d2, ds2, p2, q2, rfl, rfl, rfl, h2, r2⟩ := trodAll_cons r1
  obtain ⟨v3, vs3, d3, ds3, p3, q3, rfl, rfl, rfl, h3, r3⟩ := trodAll_cons r2
  obtain ⟨rfl, rfl, rfl⟩ := trodAll_nil r3
  obtain rfl : args = #[v0, v1, v2, v3] := by cases args; simp_all
  obtain ⟨rfl, rfl⟩ := trodVars_none hV
  obtain ⟨a0, len0, cap0, rfl⟩ := okWide_slice Try.underlying24 (hval 0 24 v0 rfl rfl)
  have k0 := h0
  have lt0 : ∀ x ∈ p0, x.block < W.heap.size := by obtain ⟨m, hm⟩ := k0; exact DataW.trod_lt m _ _ _ hm
  obtain ⟨z0, w0⟩ : ∃ zs, IsRow .i64 W a0 len0 cap0 zs := by
    obtain ⟨fuel, hf⟩ := h0
    rcases open_ints Try.underlying24 Try.underlying3 (by kernel_rfl) hf with ⟨hcs, _⟩ | ⟨x, l, c, zs, hcs, _, hl, hm, hz, _, hcell, hwz⟩
    · simp [Value.cells] at hcs
      obtain ⟨rfl, rfl, rfl⟩ := hcs
      exact ⟨[], .inl ⟨rfl, rfl, rfl, rfl⟩⟩
    · simp [Value.cells] at hcs
      obtain ⟨rfl, rfl, rfl⟩ := hcs
      exact ⟨zs, .inr ⟨_, rfl, hl, hm, by simpa using hz, hcell, hwz⟩⟩
  obtain ⟨a1, len1, cap1, rfl⟩ := okWide_slice Try.underlying24 (hval 1 24 v1 rfl rfl)
  have k1 := h1
  have lt1 : ∀ x ∈ p1, x.block < W.heap.size := by obtain ⟨m, hm⟩ := k1; exact DataW.trod_lt m _ _ _ hm
  obtain ⟨z1, w1⟩ : ∃ zs, IsRow .i64 W a1 len1 cap1 zs := by
    obtain ⟨fuel, hf⟩ := h1
    rcases open_ints Try.underlying24 Try.underlying3 (by kernel_rfl) hf with ⟨hcs, _⟩ | ⟨x, l, c, zs, hcs, _, hl, hm, hz, _, hcell, hwz⟩
    · simp [Value.cells] at hcs
      obtain ⟨rfl, rfl, rfl⟩ := hcs
      exact ⟨[], .inl ⟨rfl, rfl, rfl, rfl⟩⟩
    · simp [Value.cells] at hcs
      obtain ⟨rfl, rfl, rfl⟩ := hcs
      exact ⟨zs, .inr ⟨_, rfl, hl, hm, by simpa using hz, hcell, hwz⟩⟩
  obtain ⟨a2, len2, cap2, rfl⟩ := okWide_slice Try.underlying24 (hval 2 24 v2 rfl rfl)
  have k2 := h2
  have lt2 : ∀ x ∈ p2, x.block < W.heap.size := by obtain ⟨m, hm⟩ := k2; exact DataW.trod_lt m _ _ _ hm
  obtain ⟨z2, w2⟩ : ∃ zs, IsRow .i64 W a2 len2 cap2 zs := by
    obtain ⟨fuel, hf⟩ := h2
    rcases open_ints Try.underlying24 Try.underlying3 (by kernel_rfl) hf with ⟨hcs, _⟩ | ⟨x, l, c, zs, hcs, _, hl, hm, hz, _, hcell, hwz⟩
    · simp [Value.cells] at hcs
      obtain ⟨rfl, rfl, rfl⟩ := hcs
      exact ⟨[], .inl ⟨rfl, rfl, rfl, rfl⟩⟩
    · simp [Value.cells] at hcs
      obtain ⟨rfl, rfl, rfl⟩ := hcs
      exact ⟨zs, .inr ⟨_, rfl, hl, hm, by simpa using hz, hcell, hwz⟩⟩
  obtain ⟨a3, rfl, rfl, rfl, w3⟩ := open_int Try.underlying3 (hval 3 3 v3 rfl rfl) h3
  clear hA0 hval0
  refine (walk a0 len0 cap0 z0 a1 len1 cap1 z1 a2 len2 cap2 z2 a3 W w0 w1 w2 w3).mono fun e W' ⟨he, bel⟩ => ?_
  subst he
  exact ⟨_, rfl, _, _, _, [], _, [], hW', trodAll_mk1 (shut_bool Try.underlying4 _), (trodAll_cons_mk (Below.trod laidOut (by kernel_rfl) (of_decide_eq_true (by kernel_rfl)) k0 bel lt0) (trodAll_cons_mk (Below.trod laidOut (by kernel_rfl) (of_decide_eq_true (by kernel_rfl)) k1 bel lt1) (trodAll_cons_mk (Below.trod laidOut (by kernel_rfl) (of_decide_eq_true (by kernel_rfl)) k2 bel lt2) (trodAll_cons_mk (shut_int Try.underlying3 w3) trodAll_mk0)))), rfl, bel.frame _, fun h => by cases h⟩

theorem over : Rows.fnSetNegationIsComplementRow.holds Try.pinned (OpenSpec.ofChange Rows.fnSetNegationIsComplementSpec) :=
  OpenClaim.holds_of_wide 4 Try.f4 rfl rfl rfl rfl rfl rfl rfl ⟨rfl, rfl, rfl, rfl, rfl⟩ rfl rfl rfl rfl rfl (by kernel_rfl) Try.func4 (by kernel_rfl)
    (of_decide_eq_true (by kernel_rfl)) (by unfold Func.isWrapper; first | (rw [if_pos (by decide +kernel)]; kernel_rfl) | (rw [if_neg (by decide +kernel)]; exact ⟨rfl, rfl⟩))
    (fun os started H enc _ => lifted os started H enc)

/-- ████ THE STATEMENT ████ -/
theorem proved : Rows.FnSetNegationIsComplementSaid := over
#print axioms proved
end Go.Proofs.Ytkpnjhnopgbhlaa.fnSetNegationIsComplement
