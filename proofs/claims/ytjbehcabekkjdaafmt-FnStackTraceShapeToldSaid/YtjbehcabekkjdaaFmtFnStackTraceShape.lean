/-
  The given statement on FnStackTraceShape: for every input the law returns true and leaves its arguments as they were. No condition beyond the statement's own; no text of fmt is come to.
-/
import Derived.Test.YtjbehcabekkjdaaFmtShape
import Derived.Test.YtjbehcabekkjdaaFmtOpen
import Derived.Test.YtjbehcabekkjdaaFmtRows
import Derived.Test.YtjbehcabekkjdaaFmtCards
import Derived.WalkKit
import Derived.ProofKit
import Derived.OpenShut
import Derived.ShutString
import Derived.ChangeOld
import Derived.Below
import Derived.Stop.JoinedAt
import Derived.Stop.JoinedTold
import Derived.SevenToldRow
namespace Go.Proofs.YtjbehcabekkjdaaFmt.fnStackTraceShape
open Go.ChangeShapes Go.WideShapes Go.ChangeAt Go.RowKit
open Go.ChangeMaps (open_string shut_string)
open Go.Extern.Stop Go.Stop Go.Extern
set_option linter.unusedVariables false
set_option linter.unusedSimpArgs false

theorem own : ownKnob Tryf.prog.godebug = none := by kernel_rfl
theorem laidOut : laidOutB Tryf.prog = true := by kernel_rfl
theorem stops : Tryf.pinned.checked.prog.stops = ["fmt.Sprintf"] := by kernel_rfl
theorem stopKnobs : Tryf.pinned.checked.prog.stopKnobs = [] := by kernel_rfl
theorem quiet (os : Os) : Stop.quiet Tryf.pinned.checked.prog os := by
  intro k hk
  rw [stopKnobs] at hk
  cases hk


set_option maxHeartbeats 4000000
set_option maxRecDepth 100000
/-! ### THE WALK -/
theorem walk (F : Interp) (a0 : Option Addr) (cap0 : Nat) (z0 : List Fr) (a1 : ByteArray) (a2 : Int) (a3 : Bool) (a4 : Int) (w : World) (hF : F.told.answers w.tape) (w0 : FrsIn w a0 cap0 z0) (w1 : a1.size ≤ maxLen) (w2 : (Lit.int .i64 a2).wf = true) (w4 : (Lit.int .i64 a4).wf = true) :
    Calls Tryf.prog 6 #[.slice a0 z0.length cap0, .string a1, .int .i64 a2, .bool a3, .int .i64 a4] w fun e w' => e = .returned (.bool true) ∧ Below w.heap.size w w' := by
  obtain ⟨hfr, hnil, hlen, hwf⟩ := w0
  have hnm : ∀ i, i < z0.length → z0[i]!.name.size ≤ 9223372036854775807 := fun i hi => (hwf i hi).1
  unfold maxLen at hlen w1
  have HFR := Lib.hid hfr
  have HNIL := Lib.hid hnil
  have HNM := Lib.hid hnm
  have HG := Lib.hid hF
  have hln : ∀ i, i < z0.length → (Lit.int .i64 z0[i]!.line).wf = true := fun i hi => (hwf i hi).2.1
  have HLN := Lib.hid hln
  have b4 := bounds_i64 w4
  have b40 := b4.1
  have b41 := b4.2
  have HW2 := Lib.hid w2
  clear hfr hnil hwf hnm hF w2 w4 hln b4
  have HB := Lib.hid (bytesFnStackTraceShape_any a0 cap0 z0 a1 a2 a3 a4 w HFR.out hlen w1 HNM.out)
  go_enter Tryf.func6, Tryf.ntmps6
  go_wp2_with fail
  refine HB.out.mono ?_
  rintro e w' ⟨vb, rfl, hvb, rfl⟩
  cases vb with
  | false =>
    clear hvb
    go_wp2_with fail
    go_ret
    exact ⟨rfl, Below.refl _ _⟩
  | true =>
    have hNa := hvb rfl
    have HN := Lib.hid hNa
    clear hvb hNa HB
    by_cases hl2 : z0.length ≤ 4096 ∧ a1.size ≤ 65536
    · obtain ⟨hl2, hs2⟩ := hl2
      have t1 : decide ((4096 : Int) < (z0.length : Int)) = false := decide_eq_false (by omega)
      have t2 : decide ((65536 : Int) < (a1.size : Int)) = false := decide_eq_false (by omega)
      have HB := Lib.hid (framesOK_any a0 cap0 z0 a1 w HFR.out HN.out)
      go_wp2_with fail
      refine HB.out.mono ?_
      rintro e w' ⟨vb, rfl, hvb, rfl⟩
      cases vb with
      | false =>
        clear hvb
        go_wp2_with fail
        go_ret
        exact ⟨rfl, Below.refl _ _⟩
      | true =>
        have hfd := hvb rfl
        have HT := Lib.hid hfd.2.2.1
        have hsum := hfd.2.2.2
        clear hvb HB hfd
        go_wp2_with fail
        refine (unfoldOK_any a0 cap0 z0 a1 w HFR.out hl2 HT.out HN.out).mono ?_
        rintro e w1' ⟨vb, rfl, hbu⟩
        have HBU := Lib.hid hbu
        have HF0 := Lib.hid (HFR.out.below hbu (Nat.le_refl _))
        clear hbu
        cases vb with
        | false =>
          go_wp2_with fail
          go_ret
          exact ⟨rfl, HBU.out⟩
        | true =>
          have HNL := Lib.hid (noNL_any a0 cap0 z0 a1 w1' HF0.out HN.out)
          go_wp2_with fail
          refine HNL.out.mono ?_
          rintro e w' ⟨vb, rfl, hvb, rfl⟩
          cases vb with
          | false =>
            clear hvb
            go_wp2_with fail
            go_ret
            exact ⟨rfl, HBU.out⟩
          | true =>
            have HNN := Lib.hid (hvb rfl)
            clear hvb HNL
            go_wp2_with fail
            refine (copyF_any a0 cap0 z0 w1' HF0.out HNIL.out hl2).mono ?_
            rintro e w1 ⟨a', c', rfl, hf1, hb1, hc1, hc2, hn1, ho1⟩
            have HF1 := Lib.hid hf1
            have HB1 := Lib.hid (HBU.out.trans (hb1.mono HBU.out.size))
            clear hf1 hb1 hn1 ho1
            go_wp2_with fail
            refine (build_any a' c' z0 a1 a2 a3 w1 HF1.out hl2).mono ?_
            rintro e w2 ⟨B2, l2, c2, g2, rfl, hbu, hb2⟩
            have HU2 := Lib.hid hbu
            have HB2 := Lib.hid (HB1.out.trans (hb2.mono HB1.out.size))
            have HF2 := Lib.hid (HF1.out.below hb2 (Nat.le_refl _))
            have HG2 := Lib.hid (told_at HG.out HB2.out)
            clear hbu hb2 HF1 HB1
            obtain ⟨TN, hTN⟩ : ∃ TN : Nat, (1 : Int) + z0.length + sumT z0 = (TN : Int) := ⟨(1 + z0.length + sumT z0).toNat, by have := (sumT_take_le HT.out z0.length (Nat.le_refl _)).1; rw [List.take_length] at this; omega⟩
            have hTB : TN ≤ 69633 := by omega
            have hsh := shape_of (ld := a2) (level := a4) (child := a3) HT.out HNN.out.1 HNN.out.2 hTN.symm HN.out HLN.out HW2.out
            obtain ⟨D, hD⟩ : ∃ D, clampD a4 TN = D := ⟨_, rfl⟩
            obtain ⟨W, hW⟩ : ∃ W, (if 20 < TN - D then 15 else TN - D) = W := ⟨_, rfl⟩
            obtain ⟨d1, hd1⟩ : ∃ d1 : Int, (a4 < 0 ∧ d1 = 0) ∨ (0 ≤ a4 ∧ d1 = a4) := by
              by_cases h : a4 < 0
              · exact ⟨0, .inl ⟨h, rfl⟩⟩
              · exact ⟨a4, .inr ⟨by omega, rfl⟩⟩
            have hd2 : ((TN : Int) < d1 ∧ D = TN) ∨ (¬ (TN : Int) < d1 ∧ d1 = (D : Int)) := by
              rw [← hD]; unfold clampD; split <;> (try split) <;> omega
            have hw2 : (20 < TN - D ∧ W = 15) ∨ (¬ 20 < TN - D ∧ W = TN - D) := by
              rw [← hW]; split <;> omega
            have hDT : D ≤ TN := by rw [← hD]; exact clamp_le _ _
            obtain ⟨s, hs⟩ : ∃ s, traceT z0 a1 a2 a3 a4 = s := ⟨_, rfl⟩
            rw [hs, hD, hW] at hsh
            have HS := Lib.hid hs
            have HSH := Lib.hid hsh
            have HTN := Lib.hid hTN
            have HD1 := Lib.hid hd1
            have HD2 := Lib.hid hd2
            have HW3 := Lib.hid hw2
            clear hs hsh hTN hD hW hd1 hd2 hw2
            go_wp2_with fail
            refine (traceM_any F HU2.out a4 b40 b41 HT.out hsum hl2 HLN.out HG2.out HN.out HW2.out).mono ?_
            rw [HS.out]
            rintro e w3 ⟨rfl, hb3⟩
            have HB3 := Lib.hid (HB2.out.trans (hb3.mono HB2.out.size))
            have HF3 := Lib.hid (HF2.out.below hb3 (Nat.le_refl _))
            have HU3 := Lib.hid (HU2.out.kept hb3)
            have HG3 := Lib.hid (told_at HG.out HB3.out)
            clear hb3 HU2 HB2 HF2 HG2
            go_upto_region 14 with (fail)
            go_cut [69] (fun v wc => v = .bool false ∧ Hid (Below w.heap.size w wc) ∧ Hid (FrsAt wc a' z0))
            case first =>
              by_cases hl0 : a4 ≤ 0
              · have t0 : decide (a4 ≤ 0) = true := decide_eq_true hl0
                have HS2 := Lib.hid ((trace_low z0 a1 a2 a3 hl0).symm.trans HS.out)
                go_wp2_with fail
                refine (traceM_any F HU3.out 0 (by omega) (by omega) HT.out hsum hl2 HLN.out HG3.out HN.out HW2.out).mono ?_
                rw [HS2.out]
                rintro e w4 ⟨rfl, hb4⟩
                have HB4 := Lib.hid (HB3.out.trans (hb4.mono HB3.out.size))
                have HF4 := Lib.hid (HF3.out.below hb4 (Nat.le_refl _))
                clear hb4
                go_wp2_with fail
                go_meet
                case rel => exact ⟨by simp, HB4, HF4⟩
              · have t0 : decide (a4 ≤ 0) = false := decide_eq_false hl0
                go_wp2_with fail
                go_meet
                case rel => exact ⟨rfl, HB3, HF3⟩
            obtain ⟨rfl, HB4, HF4⟩ := hcut
            clear HB3 HF3 HU3 HG3 HS HG HN HNN HW2 HLN HBU HF0 HNM HNIL HFR
            go_wp2_with fail
            refine (lineCount_any a' c' z0 wc HF4.out hl2 HT.out).mono ?_
            rw [HTN.out]
            rintro e w5 ⟨rfl, hb5⟩
            have HB5 := Lib.hid (HB4.out.trans (hb5.mono HB4.out.size))
            clear hb5 HB4 HF4 HT
            go_upto_if 74 with (fail)
            go_cut [15] (fun v wc => v = .int .i64 d1 ∧ w5 = wc)
            case first =>
              rcases HD1.out with ⟨h, rfl⟩ | ⟨h, rfl⟩
              · have t0 : decide (a4 < 0) = true := decide_eq_true h
                go_wp2_with fail
                go_meet
                case rel => exact ⟨rfl, rfl⟩
              · have t0 : decide (d1 < 0) = false := decide_eq_false (by omega)
                go_wp2_with fail
                go_meet
                case rel => exact ⟨rfl, rfl⟩
            obtain ⟨rfl, rfl⟩ := hcut
            go_upto_if 77 with (fail)
            go_cut [15] (fun v wc => v = .int .i64 (D : Int) ∧ w5 = wc)
            case first =>
              rcases HD2.out with ⟨h, h2⟩ | ⟨h, h2⟩
              · subst h2
                have t0 : decide ((D : Int) < d1) = true := decide_eq_true h
                go_wp2_with fail
                go_meet
                case rel => exact ⟨rfl, rfl⟩
              · subst h2
                have t0 : decide ((TN : Int) < (D : Int)) = false := decide_eq_false (by omega)
                have t1 : decide (TN < D) = false := decide_eq_false (by omega)
                go_wp2_with fail
                go_meet
                case rel => exact ⟨rfl, rfl⟩
            obtain ⟨rfl, rfl⟩ := hcut
            clear HD1 HD2 HTN
            go_upto_if 83 with (fail)
            go_cut [16] (fun v wc => v = .int .i64 (W : Int) ∧ w5 = wc)
            case first =>
              rcases HW3.out with ⟨h, h2⟩ | ⟨h, h2⟩
              · subst h2
                have t0 : decide ((20 : Int) < (TN : Int) - (D : Int)) = true := decide_eq_true (by omega)
                go_wp2_with fail
                go_meet
                case rel => exact ⟨rfl, rfl⟩
              · have h3 : (TN : Int) - (D : Int) = (W : Int) := by omega
                have t0 : decide ((20 : Int) < (TN : Int) - (D : Int)) = false := decide_eq_false (by omega)
                have H3 := Lib.hid h3
                clear h3
                go_wp2_with fail
                go_meet
                case rel => exact ⟨by rw [H3.out], rfl⟩
            obtain ⟨rfl, rfl⟩ := hcut
            have hWb : W ≤ 20 := by have := HW3.out; omega
            obtain ⟨body, q0, q1, q2, q3, q4, q5⟩ := HSH.out
            unfold headB at q2
            clear HW3 HSH
            have q1' : (17 : Int) ≤ (s.size : Int) := by omega
            have t17 : decide ((s.size : Int) < 17) = false := decide_eq_false (by omega)
            have Q4 := Lib.hid q4
            have Q5 := Lib.hid q5
            have Q1 := Lib.hid q1
            have Q3 := Lib.hid q3
            clear q1 q4 q5 q3
            go_upto_region 28 with (fail)
            clear t17
            have q3' := Q3.out
            go_upto_region 30 with (fail)
            clear q3' q2
            rcases Nat.eq_zero_or_pos W with h0 | h0
            · subst h0
              obtain rfl := Q4.out rfl
              clear Q1 Q3 Q5
              go_wp2_with fail
              go_ret
              exact ⟨rfl, HB5.out⟩
            · obtain ⟨r1, r2, r3⟩ := Q5.out h0
              have te1 := body_ne r1
              have te2 : (!body.toList.isEmpty) = true := by rw [te1]; rfl
              have hbs : body.size ≤ 1125899906842624 := by have := Q1.out; omega
              have hW2 : decide ((0 : Int) < (W : Int)) = true := decide_eq_true (by omega)
              have hW3 : decide (0 < W) = true := decide_eq_true h0
              have R2 := Lib.hid r2
              have R3 := Lib.hid r3
              clear r2 r3 Q1 Q3 Q4 Q5 q1' q0
              go_upto_region 32 with (fail)
              go_wp2_with fail
              go_loop [19, 20] (fun v19 v20 => ∃ (k c : Nat), k ≤ body.size ∧ v20 = .int .i64 k ∧ v19 = .int .i64 ((c : Int) + 1) ∧ c ≤ k ∧ Hid (c = (body.data.toList.take k).count 10)) (fun _ v20 => body.size - (intOf v20).toNat)
              case atStart => exact ⟨0, 0, Nat.zero_le _, rfl, rfl, Nat.le_refl _, Lib.hid (by simp)⟩
              case round =>
                obtain ⟨k, c, hk, rfl, rfl, hck, HC⟩ := hrel
                clear te1 te2
                by_cases hlt : k < body.size
                · have hlt2 : k < body.data.toList.length := by simpa using hlt
                  have hcs := count_step body.data.toList k hlt2
                  have h6 : (k : Int) < (body.size : Int) := by omega
                  by_cases hb : (body[k]'hlt).toNat = 10
                  · have tb : (((body[k]'hlt).toNat : Int) == 10) = true := by rw [hb]; rfl
                    have HC2 : Hid (c + 1 = (body.data.toList.take (k + 1)).count 10) := Lib.hid (by
                      rw [hcs, ← HC.out, if_pos]
                      exact UInt8.toNat_inj.1 hb)
                    clear hb hcs HC
                    go_wp2_with fail
                    go_round
                    case rel => exact ⟨k + 1, c + 1, by omega, by go_num, by go_num, by omega, HC2⟩
                    case measure => simp [intOf]; omega
                  · have tb : (((body[k]'hlt).toNat : Int) == 10) = false := beq_eq_false_iff_ne.2 (by omega)
                    have HC2 : Hid (c = (body.data.toList.take (k + 1)).count 10) := Lib.hid (by
                      rw [hcs, ← HC.out, if_neg (fun e => hb (by have := congrArg UInt8.toNat e; exact this))]
                      rfl)
                    clear hb hcs HC
                    go_wp2_with fail
                    go_round
                    case rel => exact ⟨k + 1, c, by omega, by go_num, rfl, by omega, HC2⟩
                    case measure => simp [intOf]; omega
                · obtain rfl : k = body.size := by omega
                  have hcW : c + 1 = W := by
                    rw [← R2.out, HC.out, List.take_of_length_le (by simp)]
                  have hcW2 : (c : Int) + 1 = (W : Int) := by omega
                  have t0 : decide ((body.size : Int) < (body.size : Int)) = false := decide_eq_false (by omega)
                  have tw : (((c : Int) + 1) == (W : Int)) = true := by rw [beq_iff_eq]; exact hcW2
                  have tw2 : (((c : Int) + 1) != (W : Int)) = false := by simp [hcW2]
                  have t7 : decide ((body.size : Int) < 7) = false := decide_eq_false (by omega)
                  have r1' : (7 : Int) ≤ (body.size : Int) := by omega
                  have e7 : ((body.size : Int) - 7).toNat = body.size - 7 := by omega
                  have r3 := R3.out
                  unfold gLine at r3
                  clear hcW hcW2 HC R2 R3 hlt
                  go_wp2_with fail
                  go_ret
                  exact ⟨by simp, HB5.out⟩
    · rcases (show 4096 < z0.length ∨ (z0.length ≤ 4096 ∧ 65536 < a1.size) by omega) with h | ⟨h, h'⟩
      · have t1 : decide ((4096 : Int) < (z0.length : Int)) = true := decide_eq_true (by omega)
        go_wp2_with fail
        go_ret
        exact ⟨rfl, Below.refl _ _⟩
      · have t1 : decide ((4096 : Int) < (z0.length : Int)) = false := decide_eq_false (by omega)
        have t2 : decide ((65536 : Int) < (a1.size : Int)) = true := decide_eq_true (by omega)
        go_wp2_with fail
        go_ret
        exact ⟨rfl, Below.refl _ _⟩

/-! ### THE ROW's STEP -/
set_option maxRecDepth 100000 in
theorem lifted (os : Os) (started : os.Started) (H : Type) (enc : TypeId × Value → H) :
    ReturnsInTold none {} Tryf.checked os 6 .any Input.okWide ((OpenSpec.ofChange Rows.fnStackTraceShapeSpec).preRow enc Tryf.prog Tryf.f6 [] false []) (fun G => ((OpenSpec.ofChange Rows.fnStackTraceShapeSpec).at G).post enc Tryf.prog Tryf.f6 false true false false) (aloneAtReturn Tryf.prog) nothingAlways := by
  refine returnsInTold_of_row (C := Tryf.checked) (s := OpenSpec.ofChange Rows.fnStackTraceShapeSpec) (by kernel_rfl) own started (by kernel_rfl) Tryf.func6
    (OpenSpec.witness_stopped (enc := enc) (C := Tryf.checked) false ⟨#[], #[.slice none 0 0, .string ByteArray.empty, .int .i64 0, .bool false, .int .i64 0], []⟩ 8 (by kernel_rfl) (by kernel_rfl) (by kernel_rfl) (by kernel_rfl)) ?_
  intro G W base args ds gs before _ hF hval0 hW _ _ _ _ _
  have hval : ∀ (j : Nat) t v, Tryf.f6.params[j]? = some t → args[j]? = some v → Value.okWide Tryf.prog W .any base t v := hval0
  have hW' := hW
  obtain ⟨p, q, hA0, hV, rfl, hfz, hnd⟩ := hW
  have hA : DataW.TrodAll enc Tryf.prog W 0 (fun _ => true) true Tryf.f6.params.toList args.toList ds p := hA0
  rw [Tryf.params6] at hA hval
  obtain ⟨v0, vs0, d0, ds0, p0, q0, hargs, rfl, rfl, h0, r0⟩ := trodAll_cons hA
  obtain ⟨v1, vs1, d1, ds1, p1, q1, rfl, rfl, rfl, h1, r1⟩ := trodAll_cons r0
  obtain ⟨v2, vs2, d2, ds2, p2, q2, rfl, rfl, rfl, h2, r2⟩ := trodAll_cons r1
  obtain ⟨v3, vs3, d3, ds3, p3, q3, rfl, rfl, rfl, h3, r3⟩ := trodAll_cons r2
  obtain ⟨v4, vs4, d4, ds4, p4, q4, rfl, rfl, rfl, h4, r4⟩ := trodAll_cons r3
  obtain ⟨rfl, rfl, rfl⟩ := trodAll_nil r4
  obtain rfl : args = #[v0, v1, v2, v3, v4] := by cases args; simp_all
  obtain ⟨rfl, rfl⟩ := trodVars_none hV
  obtain ⟨a0, len0, cap0, rfl⟩ := okWide_slice Tryf.underlying22 (hval 0 22 v0 rfl rfl)
  have k0 := h0
  have lt0 : ∀ x ∈ p0, x.block < W.heap.size := by obtain ⟨m, hm⟩ := k0; exact DataW.trod_lt m _ _ _ hm
  obtain ⟨z0, hz0, w0⟩ : ∃ fs : List Fr, fs.length = len0 ∧ FrsIn W a0 cap0 fs := by
    obtain ⟨fuel, hf⟩ := h0
    exact frs_open hf
  subst hz0
  obtain ⟨a1, rfl, rfl, rfl, w1⟩ := open_string Tryf.underlying9 (hval 1 9 v1 rfl rfl) h1
  obtain ⟨a2, rfl, rfl, rfl, w2⟩ := open_int Tryf.underlying3 (hval 2 3 v2 rfl rfl) h2
  obtain ⟨a3, rfl, rfl, rfl⟩ := open_bool Tryf.underlying4 (hval 3 4 v3 rfl rfl) h3
  obtain ⟨a4, rfl, rfl, rfl, w4⟩ := open_int Tryf.underlying3 (hval 4 3 v4 rfl rfl) h4
  clear hA0 hval0
  refine (walk G a0 cap0 z0 a1 a2 a3 a4 W hF w0 w1 w2 w4).mono fun e W' ⟨he, bel⟩ => ?_
  subst he
  exact ⟨_, rfl, _, _, _, [], _, [], hW', trodAll_mk1 (shut_bool Tryf.underlying4 _), (trodAll_cons_mk (Below.trod laidOut (by kernel_rfl) (of_decide_eq_true (by kernel_rfl)) k0 bel lt0) (trodAll_cons_mk (shut_string Tryf.underlying9 w1) (trodAll_cons_mk (shut_int Tryf.underlying3 w2) (trodAll_cons_mk (shut_bool Tryf.underlying4 _) (trodAll_cons_mk (shut_int Tryf.underlying3 w4) trodAll_mk0))))), rfl, bel.frame _, fun h => by cases h⟩

/-- ████ THE STATEMENT ████ -/
theorem proved : Rows.FnStackTraceShapeToldSaid :=
  Claim7.holds_of_told_any 6 Tryf.f6 "fmt.Sprintf" [] [] (true, "2e5365e807b902af25876391f63b7994568324d7293be1dbde40a3fecabbcbdb") false false (by kernel_rfl) rfl rfl rfl laidOut (by kernel_rfl) rfl ⟨rfl, rfl, rfl, rfl, rfl, rfl, rfl⟩ rfl rfl (by kernel_rfl) (by kernel_rfl) Tryf.func6 (by kernel_rfl)
    (of_decide_eq_true (by kernel_rfl)) (by unfold Func.isWrapper; first | (rw [if_pos (by decide +kernel)]; kernel_rfl) | (rw [if_neg (by decide +kernel)]; exact ⟨rfl, rfl⟩)) stops.symm rfl stopKnobs.symm (by kernel_rfl)
    (by kernel_rfl) (by kernel_rfl) (by kernel_rfl) (by kernel_rfl) (by kernel_rfl) (by kernel_rfl) (by kernel_rfl) (by kernel_rfl) (by kernel_rfl) rfl (by kernel_rfl) rfl rfl
    rfl rfl
    rfl (by kernel_rfl) (by kernel_rfl) (by kernel_rfl) (by decide) (by kernel_rfl)
    (OpenClaim.moreEntering_of (by kernel_rfl) (by kernel_rfl) (by kernel_rfl) (by kernel_rfl) (by kernel_rfl) (by kernel_rfl) (by kernel_rfl) (by kernel_rfl) (by kernel_rfl) (by kernel_rfl))
    ⟨_, WideRow.started_initial, quiet _⟩
    (fun os started _ H enc _ => lifted os started H enc)
#print axioms proved
end Go.Proofs.YtjbehcabekkjdaaFmt.fnStackTraceShape
