/-
  The given statement on FnSetCaptureIdempotent: for every input the law returns true and leaves its arguments as they were. No condition beyond the statement's own.
  The frame was written by the kit's proof-skeleton.
-/
import Derived.Test.YtlokpjjjpgjbcaaHelp3c
import Derived.Deep.CutRange
import Derived.Deep.DeepCutAuto
import Derived.Test.YtlokpjjjpgjbcaaRows
import Derived.WalkKit
import Derived.ProofKit
import Derived.OpenShut
import Derived.ShutString
import Derived.ChangeOld
import Derived.Below
namespace Go.Proofs.Ytlokpjjjpgjbcaa.fnSetCaptureIdempotent
open Go.ChangeShapes Go.WideShapes Go.ChangeAt Go.RowKit
open Go.ChangeMaps (open_string shut_string)
set_option linter.unusedVariables false

theorem own : ownKnob Try.prog.godebug = none := by kernel_rfl
theorem laidOut : laidOutB Try.prog = true := by kernel_rfl

/-- WHAT THE WALK IS TOLD OF A SLICE OF INTEGERS THAT CAME IN: it is nil; or it leads to a row of 'cap' cells, the numbers 'zs' (the first 'len' are its elements, the rest its spare room), each fitting its kind. -/
def IsRow (k : IntKind) (w : World) (a : Option Addr) (len cap : Nat) (zs : List Int) : Prop :=
  (a = none ∧ len = 0 ∧ cap = 0 ∧ zs = []) ∨
  ∃ x, a = some x ∧ len ≤ cap ∧ cap ≤ maxLen ∧ zs.length = cap ∧ (∀ i, i < zs.length → w.cell? (x.add i) = some (.int k (zs.getD i 0))) ∧ ∀ n ∈ zs, (Lit.int k n).wf = true

/-- What 'IsRow' says, over the elements alone. -/
theorem isRow_told {k : IntKind} {w : World} {a : Option Addr} {len cap : Nat} {zs : List Int} (h : IsRow k w a len cap zs) :
    ∃ ys : List Int, ys.length = len ∧ RowInt k w a ys ∧ (a = none → ys.length = 0) ∧ len ≤ 9223372036854775807 ∧ (∀ n, n ∈ ys → (Lit.int k n).wf = true) := by
  rcases h with ⟨rfl, rfl, rfl, rfl⟩ | ⟨x, rfl, hl, hm, hz, hcell, hwz⟩
  · exact ⟨[], rfl, fun h0 => absurd h0 (Nat.lt_irrefl _), fun _ => rfl, by omega, fun n hn => by simp at hn⟩
  · refine ⟨zs.take len, by simp; omega, fun h0 => ?_, fun h0 => (by cases h0), by unfold maxLen at hm; omega, fun n hn => hwz n (List.mem_of_mem_take hn)⟩
    have h0' : 0 < len := by simp at h0; omega
    have hsp : x.spot = none := by simpa [Addr.add] using World.cell?_spot (hcell 0 (by omega))
    obtain ⟨b, off, spot⟩ := x
    simp only at hsp
    subst hsp
    refine ⟨b, off, rfl, fun i hi => ?_⟩
    have h1 := hcell i (by simp at hi; omega)
    rw [addr_add] at h1
    rw [h1]
    simp only [List.length_take] at hi
    rw [List.getD_eq_getElem?_getD, List.getD_eq_getElem?_getD, List.getElem?_take_of_lt (by omega)]


/-! ### STEP 1: THE WALK: the Go text returns true, AND WRITES NOTHING THAT WAS THERE: 'Below w.heap.size w w'' (Derived/Below.lean: '.refl', '.alloc', '.drew', '.setCell' at a new block, '.trans'). Open each 'IsRow' by 'rcases' AHEAD of 'go_enter'; part every test ahead of the walk. -/
set_option maxHeartbeats 1000000
set_option maxRecDepth 100000
theorem walk (a0 : Option Addr) (len0 cap0 : Nat) (z0 : List Int) (a1 : Int) (a2 : Int) (w : World) (w0 : IsRow .u32 w a0 len0 cap0 z0) (w1 : (Lit.int .i64 a1).wf = true) (w2 : (Lit.int .i64 a2).wf = true) :
    Calls Try.prog 4 #[.slice a0 len0 cap0, .int .i64 a1, .int .i64 a2] w fun e w' => e = .returned (.bool true) ∧ Below w.heap.size w w' := by
  obtain ⟨ys, rfl, hrow, hnil, hlen, hwf⟩ := isRow_told w0
  have HW := Lib.hid (fun z hz => u32_bd (hwf z hz) : ∀ z, z ∈ ys → 0 ≤ z ∧ z < 4294967296)
  have HR := Lib.hid hrow
  have HNI := Lib.hid hnil
  clear w0 hwf hrow hnil
  rcases (show 1048576 < ys.length ∨ (ys.length ≤ 1048576 ∧ 262144 < ys.length) ∨ ys.length ≤ 262144 by omega) with q | ⟨q, q'⟩ | q
  · have tb : decide (ys.length ≤ 1048576) = false := decide_eq_false (by omega)
    go_enter Try.func4, Try.ntmps4
    go_wp2_with (go_at_call 11; refine (gI_any _ _ _ _ _ hlen _).mono ?_; rintro e w' ⟨rfl, rfl⟩)
    go_ret
    exact ⟨rfl, Below.refl _ _⟩
  · have tb : decide (ys.length ≤ 1048576) = true := decide_eq_true q
    go_enter Try.func4, Try.ntmps4
    go_wp2_with (go_at_call 11; refine (gI_any _ _ _ _ _ hlen _).mono ?_; rintro e w' ⟨rfl, rfl⟩)
    go_ret
    exact ⟨rfl, Below.refl _ _⟩
  · have tb : decide (ys.length ≤ 1048576) = true := decide_eq_true (by omega)
    rcases (show a1 < 0 ∨ (0 ≤ a1 ∧ 65536 ≤ a1) ∨ (0 ≤ a1 ∧ a1 < 65536) by omega) with r | ⟨r, r'⟩ | ⟨r, r'⟩
    · have tn : decide (a1 < 0) = true := decide_eq_true r
      go_enter Try.func4, Try.ntmps4
      go_wp2_with (go_at_call 11; refine (gI_any _ _ _ _ _ hlen _).mono ?_; rintro e w' ⟨rfl, rfl⟩)
      go_ret
      exact ⟨rfl, Below.refl _ _⟩
    · have tn : decide (a1 < 0) = false := decide_eq_false (by omega)
      have tm : decide (65536 ≤ a1) = true := decide_eq_true r'
      go_enter Try.func4, Try.ntmps4
      go_wp2_with (go_at_call 11; refine (gI_any _ _ _ _ _ hlen _).mono ?_; rintro e w' ⟨rfl, rfl⟩)
      go_ret
      exact ⟨rfl, Below.refl _ _⟩
    · obtain ⟨s, rfl⟩ : ∃ k : Nat, a1 = (k : Int) := ⟨a1.toNat, by omega⟩
      have hs : s < 65536 := by omega
      have tn : decide ((s : Int) < 0) = false := decide_eq_false (by omega)
      have tm : decide (65536 ≤ (s : Int)) = false := decide_eq_false (by omega)
      clear r r'
      go_enter Try.func4, Try.ntmps4
      go_wp2_with (go_at_call 11; refine (gI_any _ _ _ _ _ hlen _).mono ?_; rintro e w' ⟨rfl, rfl⟩)
      refine (copyU_any a0 cap0 ys _ HR.out HNI.out (by omega)).mono ?_
      rintro e w2 ⟨b2, c2, rfl, hf2, ho2, hr2, hb2⟩
      have HO2 := Lib.hid ho2
      have HB2 := Lib.hid hb2
      clear hf2 ho2 hr2 hb2
      go_wp2_with fail
      refine (zzND_any _ _ _ _).mono ?_
      rintro e w3 ⟨rfl, rfl⟩
      have HM := Lib.hid (MD.new (owns_base HO2.out (Nat.zero_le _)) HW.out (by omega))
      have HB3 := Lib.hid (HB2.out.alloc HB2.out.size (.cells #[.slice b2 ys.length c2] 40))
      generalize w2.alloc (.cells #[.slice b2 ys.length c2] 40) = w3 at *
      have HWM := Lib.hid HB2.out.size
      have HWB := Lib.hid (fun q hq => (own_block HO2.out q hq).1 : ∀ q, blkOf b2 = some q → w.heap.size ≤ q)
      generalize w2.heap.size = mm at *
      go_wp2_with fail
      refine (zzSet_any (s := s) a2 HM.out (by omega)).mono ?_
      rintro e w4 ⟨rfl, ao4, cap4, hm4, hv4⟩
      obtain ⟨us, hus⟩ : ∃ us, us = (ext ys (s + 1)).set s (capW a2) := ⟨_, rfl⟩
      rw [← hus] at hm4
      have hul : us.length = max ys.length (s + 1) := by rw [hus, List.length_set, length_ext]
      have hus1 : us.getD s 0 = capW a2 := by rw [hus]; exact getD_set_same (by rw [length_ext]; omega)
      have hus2 : ∀ j, j ≠ s → us.getD j 0 = ys.getD j 0 := fun j hj => by rw [hus, getD_set_ne (fun e => hj e.symm), getD_ext]
      have hus3 : us.set s (capW a2) = us := by rw [hus, List.set_set]
      have hl4 : us.length ≤ 4194304 := by omega
      have HL4 := Lib.hid hl4
      have HUL := Lib.hid hul
      have hge1 : ys.length ≤ us.length := by omega
      have hge2 : s + 1 ≤ us.length := by omega
      clear hul
      have HS1 := Lib.hid hus1
      have HS2 := Lib.hid hus2
      have HS3 := Lib.hid hus3
      have HM4 := Lib.hid hm4
      have HB4 := Lib.hid (HB3.out.trans (hv4.below (B := w.heap.size) HWM.out (fun q hq => HWB.out q hq) HB3.out.size))
      have HWB4 := Lib.hid (hv4.rowB (fun q hq => HWB.out q hq) HB3.out.size)
      obtain ⟨g, rfl, hgm, hgl⟩ := hm4.row (by omega)
      clear hus hus1 hus2 hus3 hm4 hv4 hgm hgl
      generalize (ext ys (s + 1)).getD s 0 = old at *
      go_wp2_with fail
      refine (zzCaps_any HM4.out).mono ?_
      rintro e w' ⟨rfl, rfl⟩
      go_wp2_with fail
      have hrow4 : RowInt .u32 w4 (some ⟨g, 0, none⟩) us := fun h0 => ⟨g, 0, rfl, fun i hi => by rw [Nat.zero_add]; exact HM4.out.cell i hi⟩
      refine (copyU_any (some ⟨g, 0, none⟩) cap4 us _ hrow4 (fun h0 => (by cases h0)) HL4.out).mono ?_
      rintro e w5 ⟨b5, c5, rfl, hf5, ho5, hr5, hb5⟩
      have hm5 : MD w5 mm (some ⟨g, 0, none⟩) cap4 us := HM4.out.kept (hb5.block _ (HM4.out.lt)) (fun q hq => hb5.block _ (HM4.out.row' q hq).2)
      have hb5' : ∀ q, blkOf b5 = some q → q ≠ mm ∧ some q ≠ blkOf (some (⟨g, 0, none⟩ : Addr)) := fun q hq => by
        have h1 := (own_block ho5 q hq).1
        refine ⟨fun e => by have := HM4.out.lt; omega, fun e => ?_⟩
        have := (HM4.out.row' q e.symm).2; omega
      have HB5 := Lib.hid (HB4.out.trans (hb5.mono HB4.out.size))
      have HO5 := Lib.hid ho5
      have HM5 := Lib.hid hm5
      have HN5 := Lib.hid hb5'
      obtain ⟨x5, rfl⟩ : ∃ x, b5 = some ⟨x, 0, none⟩ := by
        rcases ho5.2 with ⟨h1, h2⟩ | ⟨g', c', cur, h1, _⟩
        · omega
        · simp only [Value.slice.injEq] at h1; exact ⟨g', h1.1⟩
      clear hrow4 hf5 ho5 hr5 hb5 hm5 hb5'
      go_upto_if 47 with (fail)
      go_cut [10] (fun v wc => v = .int .i64 (us.length : Int) ∧ wc = w5)
      case first =>
        by_cases hc : ys.length < s + 1
        · have tc : decide ((ys.length : Int) < (s : Int) + 1) = true := decide_eq_true (by omega)
          go_wp2_with fail
          go_meet
          case rel => (have hq : (us.length : Int) = (s : Int) + 1 := by have := HUL.out; omega); exact ⟨by rw [hq], rfl⟩
        · have tc : decide ((ys.length : Int) < (s : Int) + 1) = false := decide_eq_false (by omega)
          go_wp2_with fail
          go_meet
          case rel => (have hq : (us.length : Int) = (ys.length : Int) := by have := HUL.out; omega); exact ⟨by rw [hq], rfl⟩
      obtain ⟨rfl, rfl⟩ := hcut
      go_wp2_with fail
      go_loop [11] (fun i => ∃ k : Nat, k ≤ us.length ∧ i = .int .i64 k) (fun i => us.length - (intOf i).toNat)
      case atStart => exact ⟨0, Nat.zero_le _, rfl⟩
      case round =>
        obtain ⟨k, hk, rfl⟩ := hrel
        by_cases hlt : k < us.length
        · have tl : decide ((k : Int) < (us.length : Int)) = true := decide_eq_true (by omega)
          by_cases hks : k = s
          · subst hks
            have te : ((k : Int) == (k : Int)) = true := beq_self_eq_true _
            go_wp2_with fail
            go_round
            case rel => exact ⟨k + 1, by omega, by go_num⟩
            case measure => first | (simp [intOf]; done) | (simp [intOf]; omega)
          · have te : ((k : Int) == (s : Int)) = false := beq_eq_false_iff_ne.2 (by omega)
            have hki : (k : Int) < (us.length : Int) := by omega
            have hcell : wc.cell? ⟨x5, k, none⟩ = some (.int .u32 (ys.getD k 0)) := by
              rw [HO5.out.cellAt k (by omega), List.getElem?_map, List.getElem?_eq_getElem hlt, ← HS2.out k hks, List.getD_eq_getElem?_getD, List.getElem?_eq_getElem hlt]; rfl
            by_cases hky : k < ys.length
            · have ty : decide ((k : Int) < (ys.length : Int)) = true := decide_eq_true (by omega)
              have hkj : (k : Int) < (ys.length : Int) := by omega
              obtain ⟨b, off, hbx, hbc⟩ := HR.out (by omega)
              subst hbx
              have hco : wc.cell? ⟨b, off + k, none⟩ = some (.int .u32 (ys.getD k 0)) := by
                have h3 := hbc k hky
                exact (HB5.out.cell (p := ⟨b, off + k, none⟩) (lt_of_cell h3)).trans h3
              generalize ys.getD k 0 = z at *
              clear hbc
              go_wp2_with fail
              go_round
              case rel => exact ⟨k + 1, by omega, by go_num⟩
              case measure => first | (simp [intOf]; done) | (simp [intOf]; omega)
            · have ty : decide ((k : Int) < (ys.length : Int)) = false := decide_eq_false (by omega)
              have hz : ys.getD k 0 = 0 := by rw [List.getD_eq_getElem?_getD, List.getElem?_eq_none (by omega)]; rfl
              rw [hz] at hcell
              clear hz
              go_wp2_with fail
              go_round
              case rel => exact ⟨k + 1, by omega, by go_num⟩
              case measure => first | (simp [intOf]; done) | (simp [intOf]; omega)
        · obtain rfl : k = us.length := by omega
          have HSC := zzSet_any (s := s) a2 HM5.out (by omega)
          rw [ext_same (show s + 1 ≤ us.length by omega), HS3.out, HS1.out] at HSC
          have HSC' := Lib.hid HSC
          clear HSC
          have hev := capW_even a2
          have hhf := capW_half a2
          have hbd := capW_bd a2
          have hbd1 := hbd.1
          have hbd2 := hbd.2
          generalize capW a2 = cv at *
          clear hbd
          go_wp2_with fail
          refine HSC'.out.mono ?_
          rintro e w6 ⟨rfl, ao6, cap6, hm6, hv6⟩
          have HM6 := Lib.hid hm6
          have HO6 := Lib.hid (hv6.owns HO5.out (fun q hq => HN5.out q hq))
          have HB6 := Lib.hid (HB5.out.trans (hv6.below (B := w.heap.size) HWM.out (fun q hq => HWB4.out q hq) HB5.out.size))
          obtain ⟨g6, rfl, _, _⟩ := hm6.row (by omega)
          clear hm6 hv6
          go_wp2_with fail
          refine (zzCaps_any HM6.out).mono ?_
          rintro e w' ⟨rfl, rfl⟩
          have HX : Hid (Below w.heap.size w w6 ∧ ∀ k, k < us.length → w6.cell? ⟨x5, k, none⟩ = some (.int .u32 (us.getD k 0)) ∧ w6.cell? ⟨g6, k, none⟩ = some (.int .u32 (us.getD k 0))) := Lib.hid ⟨HB6.out, fun k hk => ⟨by rw [HO6.out.cellAt k (by omega), List.getElem?_map, List.getElem?_eq_getElem hk, List.getD_eq_getElem?_getD, List.getElem?_eq_getElem hk]; rfl, HM6.out.cell k hk⟩⟩
          go_wp2_with fail
          go_loopg [15] us.length (fun g v wr => ∃ k : Nat, g = us.length - k ∧ k ≤ us.length ∧ v = .int .i64 k ∧ Hid (Below w.heap.size w wr ∧ ∀ k, k < us.length → wr.cell? ⟨x5, k, none⟩ = some (.int .u32 (us.getD k 0)) ∧ wr.cell? ⟨g6, k, none⟩ = some (.int .u32 (us.getD k 0))))
          case atStart => exact ⟨0, rfl, Nat.zero_le _, rfl, HX⟩
          case round =>
            obtain ⟨k, rfl, hk, rfl, HI⟩ := hrel
            by_cases hlt : k < us.length
            · have tl : decide ((k : Int) < (us.length : Int)) = true := decide_eq_true (by omega)
              have hki : (k : Int) < (us.length : Int) := by omega
              obtain ⟨e1, e2⟩ := HI.out.2 k hlt
              generalize hz : us.getD k 0 = z at *
              clear hz
              go_wp2_with fail
              go_quiet (fail)
              go_wp2_with fail
              go_roundg (us.length - (k + 1))
              case measure => omega
              case rel => exact ⟨k + 1, by omega, by omega, by go_num, Lib.hid ⟨below_drewN HI.out.1 _, HI.out.2⟩⟩
            · have tl : decide ((k : Int) < (us.length : Int)) = false := decide_eq_false (by omega)
              have HI' := HI
              clear HI
              go_wp2_with fail
              go_ret
              exact ⟨rfl, HI'.out.1⟩

/-! ### THE ROW's STEP: WRITTEN OUT: LEAVE IT -/
set_option maxRecDepth 100000 in
theorem lifted (os : Os) (started : os.Started) (H : Type) (enc : TypeId × Value → H) :
    ReturnsInHanded {} Try.checked os 4 .any (Rows.fnSetCaptureIdempotentSpec.pre6 enc Try.prog Try.f4 Rows.fnSetCaptureIdempotentRow.domain false) (Rows.fnSetCaptureIdempotentSpec.post enc Try.prog Try.f4 false true false false) := by
  refine returnsInHanded_of_change (C := Try.checked) own started (by kernel_rfl) Try.func4
    (ChangeSpec.witness6 (enc := enc) (C := Try.checked) false ⟨#[], #[.slice none 0 0, .int .i64 0, .int .i64 0], []⟩ 8 (by kernel_rfl) (by kernel_rfl) (by kernel_rfl) (by kernel_rfl)) ?_
  intro W base args ds gs before hval0 hW hcnd _
  have hval : ∀ (j : Nat) t v, Try.f4.params[j]? = some t → args[j]? = some v → Value.okWide Try.prog W .any base t v := hval0
  have hW' := hW
  obtain ⟨p, q, hA0, hV, rfl, hfz, hnd⟩ := hW
  have hA : DataW.TrodAll enc Try.prog W 0 (fun _ => true) true Try.f4.params.toList args.toList ds p := hA0
  rw [Try.params4] at hA hval
  obtain ⟨v0, vs0, d0, ds0, p0, q0, hargs, rfl, rfl, h0, r0⟩ := trodAll_cons hA
  obtain ⟨v1, vs1, d1, ds1, p1, q1, rfl, rfl, rfl, h1, r1⟩ := trodAll_cons r0
  obtain ⟨v2, vs2, d2, ds2, p2, q2, rfl, rfl, rfl, h2, r2⟩ := trodAll_cons r1
  obtain ⟨rfl, rfl, rfl⟩ := trodAll_nil r2
  obtain rfl : args = #[v0, v1, v2] := by cases args; simp_all
  obtain ⟨rfl, rfl⟩ := trodVars_none hV
  obtain ⟨a0, len0, cap0, rfl⟩ := okWide_slice Try.underlying22 (hval 0 22 v0 rfl rfl)
  have k0 := h0
  have lt0 : ∀ x ∈ p0, x.block < W.heap.size := by obtain ⟨m, hm⟩ := k0; exact DataW.trod_lt m _ _ _ hm
  obtain ⟨z0, w0⟩ : ∃ zs, IsRow .u32 W a0 len0 cap0 zs := by
    obtain ⟨fuel, hf⟩ := h0
    rcases open_ints Try.underlying22 Try.underlying26 (by kernel_rfl) hf with ⟨hcs, _⟩ | ⟨x, l, c, zs, hcs, _, hl, hm, hz, _, hcell, hwz⟩
    · simp [Value.cells] at hcs
      obtain ⟨rfl, rfl, rfl⟩ := hcs
      exact ⟨[], .inl ⟨rfl, rfl, rfl, rfl⟩⟩
    · simp [Value.cells] at hcs
      obtain ⟨rfl, rfl, rfl⟩ := hcs
      exact ⟨zs, .inr ⟨_, rfl, hl, hm, by simpa using hz, hcell, hwz⟩⟩
  obtain ⟨a1, rfl, rfl, rfl, w1⟩ := open_int Try.underlying3 (hval 1 3 v1 rfl rfl) h1
  obtain ⟨a2, rfl, rfl, rfl, w2⟩ := open_int Try.underlying3 (hval 2 3 v2 rfl rfl) h2
  clear hA0 hval0
  refine (walk a0 len0 cap0 z0 a1 a2 W w0 w1 w2).mono fun e W' ⟨he, bel⟩ => ?_
  subst he
  exact ⟨_, rfl, _, _, _, [], _, [], hW', trodAll_mk1 (shut_bool Try.underlying4 _), (trodAll_cons_mk (Below.trod laidOut (by kernel_rfl) (of_decide_eq_true (by kernel_rfl)) k0 bel lt0) (trodAll_cons_mk (shut_int Try.underlying3 w1) (trodAll_cons_mk (shut_int Try.underlying3 w2) trodAll_mk0))), rfl, bel.frame _, fun h => by cases h⟩

theorem over : Rows.fnSetCaptureIdempotentRow.holds Try.pinned (OpenSpec.ofChange Rows.fnSetCaptureIdempotentSpec) :=
  OpenClaim.holds_of_wide 4 Try.f4 rfl rfl rfl rfl rfl rfl rfl ⟨rfl, rfl, rfl, rfl, rfl⟩ rfl rfl rfl rfl rfl (by kernel_rfl) Try.func4 (by kernel_rfl)
    (of_decide_eq_true (by kernel_rfl)) (by unfold Func.isWrapper; first | (rw [if_pos (by decide +kernel)]; kernel_rfl) | (rw [if_neg (by decide +kernel)]; exact ⟨rfl, rfl⟩))
    (fun os started H enc _ => lifted os started H enc)

/-- ████ THE STATEMENT ████ -/
theorem proved : Rows.FnSetCaptureIdempotentSaid := over
#print axioms proved
end Go.Proofs.Ytlokpjjjpgjbcaa.fnSetCaptureIdempotent
