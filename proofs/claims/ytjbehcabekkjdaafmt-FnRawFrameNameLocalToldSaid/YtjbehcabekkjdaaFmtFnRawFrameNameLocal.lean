/-
  The given statement on FnRawFrameNameLocal: for every input the law returns true and leaves its arguments as they were. No condition beyond the statement's own; no text of fmt is come to.
-/
import Derived.Test.YtjbehcabekkjdaaFmtRaw
import Derived.Test.YtjbehcabekkjdaaFmtOpen
import Derived.Test.YtjbehcabekkjdaaFmtRows
import Derived.Test.YtjbehcabekkjdaaFmtCards
import Derived.WalkKit
import Derived.ProofKit
import Derived.OpenShut
import Derived.ShutString
import Derived.ChangeOld
import Derived.Below
import Derived.Stop.JoinedAt
import Derived.Stop.JoinedTold
import Derived.SevenToldRow
namespace Go.Proofs.YtjbehcabekkjdaaFmt.fnRawFrameNameLocal
open Go.ChangeShapes Go.WideShapes Go.ChangeAt Go.RowKit
open Go.ChangeMaps (open_string shut_string)
open Go.Extern.Stop Go.Stop Go.Extern
set_option linter.unusedVariables false
set_option linter.unusedSimpArgs false

theorem own : ownKnob Tryf.prog.godebug = none := by kernel_rfl
theorem laidOut : laidOutB Tryf.prog = true := by kernel_rfl
theorem stops : Tryf.pinned.checked.prog.stops = ["fmt.Sprintf"] := by kernel_rfl
theorem stopKnobs : Tryf.pinned.checked.prog.stopKnobs = [] := by kernel_rfl
theorem quiet (os : Os) : Stop.quiet Tryf.pinned.checked.prog os := by
  intro k hk
  rw [stopKnobs] at hk
  cases hk


set_option maxHeartbeats 2000000
set_option maxRecDepth 100000
/-! ### THE WALK -/
theorem walk (F : Interp) (a0 : Option Addr) (cap0 : Nat) (z0 : List Fr) (a1 : ByteArray) (a2 : Int) (a3 : Bool) (a4 : Int) (w : World) (hF : F.told.answers w.tape) (w0 : FrsIn w a0 cap0 z0) (w1 : a1.size ≤ maxLen) (w2 : (Lit.int .i64 a2).wf = true) (w4 : (Lit.int .i64 a4).wf = true) :
    Calls Tryf.prog 3 #[.slice a0 z0.length cap0, .string a1, .int .i64 a2, .bool a3, .int .i64 a4] w fun e w' => e = .returned (.bool true) ∧ Below w.heap.size w w' := by
  obtain ⟨hfr, hnil, hlen, hwf⟩ := w0
  have hnm : ∀ i, i < z0.length → z0[i]!.name.size ≤ 9223372036854775807 := fun i hi => (hwf i hi).1
  unfold maxLen at hlen w1
  have HFR := Lib.hid hfr
  have HNIL := Lib.hid hnil
  have HNM := Lib.hid hnm
  have HG := Lib.hid hF
  have b4 := bounds_i64 w4
  have HW2 := Lib.hid w2
  clear hfr hnil hwf hnm hF w2 w4
  have HB := Lib.hid (bytesFnRawFrameNameLocal_any a0 cap0 z0 a1 a2 a3 a4 w HFR.out hlen w1 HNM.out)
  go_enter Tryf.func3, Tryf.ntmps3
  go_wp2_with fail
  refine HB.out.mono ?_
  rintro e w' ⟨vb, rfl, hvb, rfl⟩
  cases vb with
  | false =>
    clear hvb
    go_wp2_with fail
    go_ret
    exact ⟨rfl, Below.refl _ _⟩
  | true =>
    have hNa := hvb rfl
    have HN := Lib.hid hNa
    clear hvb hNa HB
    by_cases hl2 : z0.length ≤ 4096 ∧ a1.size ≤ 65536
    · obtain ⟨hl2, hs2⟩ := hl2
      have t1 : decide ((4096 : Int) < (z0.length : Int)) = false := decide_eq_false (by omega)
      have t2 : decide ((65536 : Int) < (a1.size : Int)) = false := decide_eq_false (by omega)
      have HB := Lib.hid (framesOK_any a0 cap0 z0 a1 w HFR.out HN.out)
      go_wp2_with fail
      refine HB.out.mono ?_
      rintro e w' ⟨vb, rfl, hvb, rfl⟩
      cases vb with
      | false =>
        clear hvb
        go_wp2_with fail
        go_ret
        exact ⟨rfl, Below.refl _ _⟩
      | true =>
        clear hvb HB
        by_cases hk : 0 ≤ a4 ∧ a4 < (z0.length : Int)
        · obtain ⟨hk0, hk1⟩ := hk
          obtain ⟨k, rfl⟩ : ∃ k : Nat, a4 = (k : Int) := ⟨a4.toNat, by omega⟩
          have hk : k < z0.length := by omega
          have t3 : decide ((k : Int) < 0) = false := decide_eq_false (by omega)
          have t4 : decide ((z0.length : Int) ≤ (k : Int)) = false := decide_eq_false (by omega)
          have t5 : decide (z0.length ≤ k) = false := decide_eq_false (by omega)
          go_wp2_with fail
          refine (copyF_any a0 cap0 z0 w HFR.out HNIL.out hl2).mono ?_
          rintro e w1 ⟨a', c', rfl, hf1, hb1, hc1, hc2, hn1, ho1⟩
          have HF1 := Lib.hid hf1
          have HB1 := Lib.hid hb1
          have HO1 := Lib.hid ho1
          clear hf1 hb1 hn1 ho1
          go_wp2_with fail
          refine (build_any a' c' z0 a1 a2 a3 w1 HF1.out hl2).mono ?_
          rintro e w2 ⟨B2, l2, c2, g2, rfl, hbu, hb2⟩
          have HU2 := Lib.hid hbu
          have HB2 := Lib.hid (HB1.out.trans (hb2.mono HB1.out.size))
          have HF2 := Lib.hid (HF1.out.below hb2 (Nat.le_refl _))
          clear hbu hb2
          obtain ⟨b', off', rfl, hbl', -⟩ := HF2.out (by omega)
          go_wp2_with fail
          refine (build_n (some ⟨b', off', none⟩) _ (k + 1) (z0.take (k + 1)) a1 a2 a3 w2 (by rw [List.length_take]; omega) (HF2.out.take _) (by rw [List.length_take]; omega)).mono ?_
          rintro e w3 ⟨B3, l3, c3, g3, rfl, hbu, hb3⟩
          have HU3 := Lib.hid hbu
          have HUA := Lib.hid (HU2.out.kept hb3)
          have HB3 := Lib.hid (HB2.out.trans (hb3.mono HB2.out.size))
          clear hbu hb3
          have hw3 := told_at HG.out HB3.out
          have HG3 := Lib.hid hw3
          clear hw3
          go_wp2_with fail
          refine (zzAtB HUA.out hk).mono ?_
          rintro e w' ⟨rfl, rfl⟩
          go_wp2_with fail
          refine (zzRaw_any F HUA.out hk HG3.out (by omega) HW2.out).mono ?_
          rintro e w4 ⟨rfl, hb4⟩
          have HU4 := Lib.hid (HU3.out.kept hb4)
          have HB4 := Lib.hid (HB3.out.trans (hb4.mono HB3.out.size))
          have HG4 := Lib.hid (told_at HG.out HB4.out)
          clear hb4
          generalize hrr : (rawOf z0 k a1 a2 a3).1 = rr
          have HRR := Lib.hid hrr
          clear hrr
          have hk3 : k < (z0.take (k + 1)).length := by rw [List.length_take]; omega
          go_wp2_with fail
          refine (zzAtB HU4.out hk3).mono ?_
          rintro e w' ⟨rfl, rfl⟩
          go_wp2_with fail
          refine (zzRaw_any F HU4.out hk3 HG4.out (by omega) HW2.out).mono ?_
          rw [raw_local hk, HRR.out]
          rintro e w5 ⟨rfl, hb5⟩
          have HB5 := Lib.hid (HB4.out.trans (hb5.mono HB4.out.size))
          clear hb5
          go_wp2_with fail
          go_ret
          exact ⟨by simp, HB5.out⟩
        · rcases (show a4 < 0 ∨ (0 ≤ a4 ∧ (z0.length : Int) ≤ a4) by omega) with h | ⟨h, h'⟩
          · have t3 : decide (a4 < 0) = true := decide_eq_true h
            go_wp2_with fail
            go_ret
            exact ⟨rfl, Below.refl _ _⟩
          · have t3 : decide (a4 < 0) = false := decide_eq_false (by omega)
            have t4 : decide ((z0.length : Int) ≤ a4) = true := decide_eq_true h'
            go_wp2_with fail
            go_ret
            exact ⟨rfl, Below.refl _ _⟩
    · rcases (show 4096 < z0.length ∨ (z0.length ≤ 4096 ∧ 65536 < a1.size) by omega) with h | ⟨h, h'⟩
      · have t1 : decide ((4096 : Int) < (z0.length : Int)) = true := decide_eq_true (by omega)
        go_wp2_with fail
        go_ret
        exact ⟨rfl, Below.refl _ _⟩
      · have t1 : decide ((4096 : Int) < (z0.length : Int)) = false := decide_eq_false (by omega)
        have t2 : decide ((65536 : Int) < (a1.size : Int)) = true := decide_eq_true (by omega)
        go_wp2_with fail
        go_ret
        exact ⟨rfl, Below.refl _ _⟩

/-! ### THE ROW's STEP -/
set_option maxRecDepth 100000 in
theorem lifted (os : Os) (started : os.Started) (H : Type) (enc : TypeId × Value → H) :
    ReturnsInTold none {} Tryf.checked os 3 .any Input.okWide ((OpenSpec.ofChange Rows.fnRawFrameNameLocalSpec).preRow enc Tryf.prog Tryf.f3 [] false []) (fun G => ((OpenSpec.ofChange Rows.fnRawFrameNameLocalSpec).at G).post enc Tryf.prog Tryf.f3 false true false false) (aloneAtReturn Tryf.prog) nothingAlways := by
  refine returnsInTold_of_row (C := Tryf.checked) (s := OpenSpec.ofChange Rows.fnRawFrameNameLocalSpec) (by kernel_rfl) own started (by kernel_rfl) Tryf.func3
    (OpenSpec.witness_stopped (enc := enc) (C := Tryf.checked) false ⟨#[], #[.slice none 0 0, .string ByteArray.empty, .int .i64 0, .bool false, .int .i64 0], []⟩ 8 (by kernel_rfl) (by kernel_rfl) (by kernel_rfl) (by kernel_rfl)) ?_
  intro G W base args ds gs before _ hF hval0 hW _ _ _ _ _
  have hval : ∀ (j : Nat) t v, Tryf.f3.params[j]? = some t → args[j]? = some v → Value.okWide Tryf.prog W .any base t v := hval0
  have hW' := hW
  obtain ⟨p, q, hA0, hV, rfl, hfz, hnd⟩ := hW
  have hA : DataW.TrodAll enc Tryf.prog W 0 (fun _ => true) true Tryf.f3.params.toList args.toList ds p := hA0
  rw [Tryf.params3] at hA hval
  obtain ⟨v0, vs0, d0, ds0, p0, q0, hargs, rfl, rfl, h0, r0⟩ := trodAll_cons hA
  obtain ⟨v1, vs1, d1, ds1, p1, q1, rfl, rfl, rfl, h1, r1⟩ := trodAll_cons r0
  obtain ⟨v2, vs2, d2, ds2, p2, q2, rfl, rfl, rfl, h2, r2⟩ := trodAll_cons r1
  obtain ⟨v3, vs3, d3, ds3, p3, q3, rfl, rfl, rfl, h3, r3⟩ := trodAll_cons r2
  obtain ⟨v4, vs4, d4, ds4, p4, q4, rfl, rfl, rfl, h4, r4⟩ := trodAll_cons r3
  obtain ⟨rfl, rfl, rfl⟩ := trodAll_nil r4
  obtain rfl : args = #[v0, v1, v2, v3, v4] := by cases args; simp_all
  obtain ⟨rfl, rfl⟩ := trodVars_none hV
  obtain ⟨a0, len0, cap0, rfl⟩ := okWide_slice Tryf.underlying22 (hval 0 22 v0 rfl rfl)
  have k0 := h0
  have lt0 : ∀ x ∈ p0, x.block < W.heap.size := by obtain ⟨m, hm⟩ := k0; exact DataW.trod_lt m _ _ _ hm
  obtain ⟨z0, hz0, w0⟩ : ∃ fs : List Fr, fs.length = len0 ∧ FrsIn W a0 cap0 fs := by
    obtain ⟨fuel, hf⟩ := h0
    exact frs_open hf
  subst hz0
  obtain ⟨a1, rfl, rfl, rfl, w1⟩ := open_string Tryf.underlying9 (hval 1 9 v1 rfl rfl) h1
  obtain ⟨a2, rfl, rfl, rfl, w2⟩ := open_int Tryf.underlying3 (hval 2 3 v2 rfl rfl) h2
  obtain ⟨a3, rfl, rfl, rfl⟩ := open_bool Tryf.underlying4 (hval 3 4 v3 rfl rfl) h3
  obtain ⟨a4, rfl, rfl, rfl, w4⟩ := open_int Tryf.underlying3 (hval 4 3 v4 rfl rfl) h4
  clear hA0 hval0
  refine (walk G a0 cap0 z0 a1 a2 a3 a4 W hF w0 w1 w2 w4).mono fun e W' ⟨he, bel⟩ => ?_
  subst he
  exact ⟨_, rfl, _, _, _, [], _, [], hW', trodAll_mk1 (shut_bool Tryf.underlying4 _), (trodAll_cons_mk (Below.trod laidOut (by kernel_rfl) (of_decide_eq_true (by kernel_rfl)) k0 bel lt0) (trodAll_cons_mk (shut_string Tryf.underlying9 w1) (trodAll_cons_mk (shut_int Tryf.underlying3 w2) (trodAll_cons_mk (shut_bool Tryf.underlying4 _) (trodAll_cons_mk (shut_int Tryf.underlying3 w4) trodAll_mk0))))), rfl, bel.frame _, fun h => by cases h⟩

/-- ████ THE STATEMENT ████ -/
theorem proved : Rows.FnRawFrameNameLocalToldSaid :=
  Claim7.holds_of_told_any 3 Tryf.f3 "fmt.Sprintf" [] [] (true, "2e5365e807b902af25876391f63b7994568324d7293be1dbde40a3fecabbcbdb") false false (by kernel_rfl) rfl rfl rfl laidOut (by kernel_rfl) rfl ⟨rfl, rfl, rfl, rfl, rfl, rfl, rfl⟩ rfl rfl (by kernel_rfl) (by kernel_rfl) Tryf.func3 (by kernel_rfl)
    (of_decide_eq_true (by kernel_rfl)) (by unfold Func.isWrapper; first | (rw [if_pos (by decide +kernel)]; kernel_rfl) | (rw [if_neg (by decide +kernel)]; exact ⟨rfl, rfl⟩)) stops.symm rfl stopKnobs.symm (by kernel_rfl)
    (by kernel_rfl) (by kernel_rfl) (by kernel_rfl) (by kernel_rfl) (by kernel_rfl) (by kernel_rfl) (by kernel_rfl) (by kernel_rfl) (by kernel_rfl) rfl (by kernel_rfl) rfl rfl
    rfl rfl
    rfl (by kernel_rfl) (by kernel_rfl) (by kernel_rfl) (by decide) (by kernel_rfl)
    (OpenClaim.moreEntering_of (by kernel_rfl) (by kernel_rfl) (by kernel_rfl) (by kernel_rfl) (by kernel_rfl) (by kernel_rfl) (by kernel_rfl) (by kernel_rfl) (by kernel_rfl) (by kernel_rfl))
    ⟨_, WideRow.started_initial, quiet _⟩
    (fun os started _ H enc _ => lifted os started H enc)
#print axioms proved
end Go.Proofs.YtjbehcabekkjdaaFmt.fnRawFrameNameLocal
