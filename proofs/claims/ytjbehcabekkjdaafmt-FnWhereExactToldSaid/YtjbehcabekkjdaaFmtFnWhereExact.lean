/-
  The given statement on FnWhereExact: for every input the law returns true and leaves its arguments as they were. No condition beyond the statement's own; no text of fmt is come to.
-/
import Derived.Test.YtjbehcabekkjdaaFmtWhere
import Derived.Test.YtjbehcabekkjdaaFmtOpen
import Derived.Test.YtjbehcabekkjdaaFmtRows
import Derived.Test.YtjbehcabekkjdaaFmtCards
import Derived.WalkKit
import Derived.ProofKit
import Derived.OpenShut
import Derived.ShutString
import Derived.ChangeOld
import Derived.Below
import Derived.Stop.JoinedAt
import Derived.Stop.JoinedTold
import Derived.SevenToldRow
namespace Go.Proofs.YtjbehcabekkjdaaFmt.fnWhereExact
open Go.ChangeShapes Go.WideShapes Go.ChangeAt Go.RowKit
open Go.ChangeMaps (open_string shut_string)
open Go.Extern.Stop Go.Stop Go.Extern
set_option linter.unusedVariables false
set_option linter.unusedSimpArgs false

theorem own : ownKnob Tryf.prog.godebug = none := by kernel_rfl
theorem laidOut : laidOutB Tryf.prog = true := by kernel_rfl
theorem stops : Tryf.pinned.checked.prog.stops = ["fmt.Sprintf"] := by kernel_rfl
theorem stopKnobs : Tryf.pinned.checked.prog.stopKnobs = [] := by kernel_rfl
theorem quiet (os : Os) : Stop.quiet Tryf.pinned.checked.prog os := by
  intro k hk
  rw [stopKnobs] at hk
  cases hk


set_option maxHeartbeats 2000000
set_option maxRecDepth 100000
/-! ### THE WALK -/
theorem walk (F : Interp) (a0 : Option Addr) (cap0 : Nat) (z0 : List Fr) (a1 : ByteArray) (a2 : Int) (w : World) (hF : F.told.answers w.tape) (w0 : FrsIn w a0 cap0 z0) (w1 : a1.size ≤ maxLen) (w2 : (Lit.int .i64 a2).wf = true) :
    Calls Tryf.prog 4 #[.slice a0 z0.length cap0, .string a1, .int .i64 a2] w fun e w' => e = .returned (.bool true) ∧ Below w.heap.size w w' := by
  obtain ⟨hfr, hnil, hlen, hwf⟩ := w0
  have hnm : ∀ i, i < z0.length → z0[i]!.name.size ≤ 9223372036854775807 := fun i hi => (hwf i hi).1
  unfold maxLen at hlen w1
  have HFR := Lib.hid hfr
  have HNIL := Lib.hid hnil
  have HNM := Lib.hid hnm
  have HG := Lib.hid hF
  have hln : ∀ i, i < z0.length → (Lit.int .i64 z0[i]!.line).wf = true := fun i hi => (hwf i hi).2.1
  have HLN := Lib.hid hln
  have b2 := bounds_i64 w2
  have b20 := b2.1
  have b21 := b2.2
  clear hfr hnil hwf hnm hF w2 hln b2
  have HB := Lib.hid (bytesFnWhereExact_any a0 cap0 z0 a1 a2 w HFR.out hlen w1 HNM.out)
  go_enter Tryf.func4, Tryf.ntmps4
  go_wp2_with fail
  refine HB.out.mono ?_
  rintro e w' ⟨vb, rfl, hvb, rfl⟩
  cases vb with
  | false =>
    clear hvb
    go_wp2_with fail
    go_ret
    exact ⟨rfl, Below.refl _ _⟩
  | true =>
    have hNa := hvb rfl
    have HN := Lib.hid hNa
    clear hvb hNa HB
    by_cases hl2 : z0.length ≤ 4096 ∧ a1.size ≤ 65536
    · obtain ⟨hl2, hs2⟩ := hl2
      have t1 : decide ((4096 : Int) < (z0.length : Int)) = false := decide_eq_false (by omega)
      have t2 : decide ((65536 : Int) < (a1.size : Int)) = false := decide_eq_false (by omega)
      have HB := Lib.hid (framesOK_any a0 cap0 z0 a1 w HFR.out HN.out)
      go_wp2_with fail
      refine HB.out.mono ?_
      rintro e w' ⟨vb, rfl, hvb, rfl⟩
      cases vb with
      | false =>
        clear hvb
        go_wp2_with fail
        go_ret
        exact ⟨rfl, Below.refl _ _⟩
      | true =>
        have hfd := hvb rfl
        have HT := Lib.hid hfd.2.2.1
        clear hvb HB hfd
        go_wp2_with fail
        refine (copyF_any a0 cap0 z0 w HFR.out HNIL.out hl2).mono ?_
        rintro e w1 ⟨a', c', rfl, hf1, hb1, hc1, hc2, hn1, ho1⟩
        have HF1 := Lib.hid hf1
        have HB1 := Lib.hid hb1
        clear hf1 hb1 hn1 ho1
        go_wp2_with fail
        refine (build_any a' c' z0 a1 0 false w1 HF1.out hl2).mono ?_
        rintro e w2 ⟨B2, l2, c2, g2, rfl, hbu, hb2⟩
        have HU2 := Lib.hid hbu
        have HB2 := Lib.hid (HB1.out.trans (hb2.mono HB1.out.size))
        have HF2 := Lib.hid (HF1.out.below hb2 (Nat.le_refl _))
        have HG2 := Lib.hid (told_at HG.out HB2.out)
        clear hbu hb2 HF1 HB1
        obtain ⟨O, hO⟩ : ∃ O, selO z0 a2 = O := ⟨_, rfl⟩
        have HO := Lib.hid hO
        clear hO
        go_wp2_with fail
        refine (whereM_any F HU2.out a2 b20 b21 HT.out HLN.out HG2.out (by omega)).mono ?_
        rw [HO.out]
        rintro e w3 ⟨rfl, hb3⟩
        have HB3 := Lib.hid (HB2.out.trans (hb3.mono HB2.out.size))
        have HF3 := Lib.hid (HF2.out.below hb3 (Nat.le_refl _))
        clear hb3
        obtain ⟨s, hs⟩ : ∃ s, whereO z0 a1 O = s := ⟨_, rfl⟩
        have HS := Lib.hid hs
        rw [hs]
        clear hs
        go_wp2_with fail
        refine (select_any a' c' z0 a2 w3 HF3.out hl2 HT.out).mono ?_
        rw [HO.out]
        rintro e w4 ⟨rfl, hb4⟩
        have HB4 := Lib.hid (HB3.out.trans (hb4.mono HB3.out.size))
        have HF4 := Lib.hid (HF3.out.below hb4 (Nat.le_refl _))
        clear hb4
        cases O with
        | none =>
          have e1 : optI none = -1 := rfl
          have hs0 : s = ⟨#[]⟩ := by rw [← HS.out]; rfl
          subst hs0
          rw [e1]
          go_wp2_with fail
          go_ret
          exact ⟨rfl, HB4.out⟩
        | some k =>
          have e1 : optI (some k) = (k : Int) := rfl
          have hk := selO_lt HO.out
          have hs0 : whereT z0[k]! a1 = s := by rw [← HS.out]; rfl
          rw [e1]
          have HS0 := Lib.hid hs0
          clear hs0 e1
          go_wp2_with fail
          refine (text_any a' c' z0 k a1 w4 HF4.out hk (HLN.out k hk) (by omega)).mono ?_
          rw [HS0.out]
          rintro e w5 ⟨rfl, hb5⟩
          have HB5 := Lib.hid (HB4.out.trans (hb5.mono HB4.out.size))
          clear hb5
          go_wp2_with fail
          go_ret
          exact ⟨by simp, HB5.out⟩
    · rcases (show 4096 < z0.length ∨ (z0.length ≤ 4096 ∧ 65536 < a1.size) by omega) with h | ⟨h, h'⟩
      · have t1 : decide ((4096 : Int) < (z0.length : Int)) = true := decide_eq_true (by omega)
        go_wp2_with fail
        go_ret
        exact ⟨rfl, Below.refl _ _⟩
      · have t1 : decide ((4096 : Int) < (z0.length : Int)) = false := decide_eq_false (by omega)
        have t2 : decide ((65536 : Int) < (a1.size : Int)) = true := decide_eq_true (by omega)
        go_wp2_with fail
        go_ret
        exact ⟨rfl, Below.refl _ _⟩

/-! ### THE ROW's STEP -/
set_option maxRecDepth 100000 in
theorem lifted (os : Os) (started : os.Started) (H : Type) (enc : TypeId × Value → H) :
    ReturnsInTold none {} Tryf.checked os 4 .any Input.okWide ((OpenSpec.ofChange Rows.fnWhereExactSpec).preRow enc Tryf.prog Tryf.f4 [] false []) (fun G => ((OpenSpec.ofChange Rows.fnWhereExactSpec).at G).post enc Tryf.prog Tryf.f4 false true false false) (aloneAtReturn Tryf.prog) nothingAlways := by
  refine returnsInTold_of_row (C := Tryf.checked) (s := OpenSpec.ofChange Rows.fnWhereExactSpec) (by kernel_rfl) own started (by kernel_rfl) Tryf.func4
    (OpenSpec.witness_stopped (enc := enc) (C := Tryf.checked) false ⟨#[], #[.slice none 0 0, .string ByteArray.empty, .int .i64 0], []⟩ 8 (by kernel_rfl) (by kernel_rfl) (by kernel_rfl) (by kernel_rfl)) ?_
  intro G W base args ds gs before _ hF hval0 hW _ _ _ _ _
  have hval : ∀ (j : Nat) t v, Tryf.f4.params[j]? = some t → args[j]? = some v → Value.okWide Tryf.prog W .any base t v := hval0
  have hW' := hW
  obtain ⟨p, q, hA0, hV, rfl, hfz, hnd⟩ := hW
  have hA : DataW.TrodAll enc Tryf.prog W 0 (fun _ => true) true Tryf.f4.params.toList args.toList ds p := hA0
  rw [Tryf.params4] at hA hval
  obtain ⟨v0, vs0, d0, ds0, p0, q0, hargs, rfl, rfl, h0, r0⟩ := trodAll_cons hA
  obtain ⟨v1, vs1, d1, ds1, p1, q1, rfl, rfl, rfl, h1, r1⟩ := trodAll_cons r0
  obtain ⟨v2, vs2, d2, ds2, p2, q2, rfl, rfl, rfl, h2, r2⟩ := trodAll_cons r1
  obtain ⟨rfl, rfl, rfl⟩ := trodAll_nil r2
  obtain rfl : args = #[v0, v1, v2] := by cases args; simp_all
  obtain ⟨rfl, rfl⟩ := trodVars_none hV
  obtain ⟨a0, len0, cap0, rfl⟩ := okWide_slice Tryf.underlying22 (hval 0 22 v0 rfl rfl)
  have k0 := h0
  have lt0 : ∀ x ∈ p0, x.block < W.heap.size := by obtain ⟨m, hm⟩ := k0; exact DataW.trod_lt m _ _ _ hm
  obtain ⟨z0, hz0, w0⟩ : ∃ fs : List Fr, fs.length = len0 ∧ FrsIn W a0 cap0 fs := by
    obtain ⟨fuel, hf⟩ := h0
    exact frs_open hf
  subst hz0
  obtain ⟨a1, rfl, rfl, rfl, w1⟩ := open_string Tryf.underlying9 (hval 1 9 v1 rfl rfl) h1
  obtain ⟨a2, rfl, rfl, rfl, w2⟩ := open_int Tryf.underlying3 (hval 2 3 v2 rfl rfl) h2
  clear hA0 hval0
  refine (walk G a0 cap0 z0 a1 a2 W hF w0 w1 w2).mono fun e W' ⟨he, bel⟩ => ?_
  subst he
  exact ⟨_, rfl, _, _, _, [], _, [], hW', trodAll_mk1 (shut_bool Tryf.underlying4 _), (trodAll_cons_mk (Below.trod laidOut (by kernel_rfl) (of_decide_eq_true (by kernel_rfl)) k0 bel lt0) (trodAll_cons_mk (shut_string Tryf.underlying9 w1) (trodAll_cons_mk (shut_int Tryf.underlying3 w2) trodAll_mk0))), rfl, bel.frame _, fun h => by cases h⟩

/-- ████ THE STATEMENT ████ -/
theorem proved : Rows.FnWhereExactToldSaid :=
  Claim7.holds_of_told_any 4 Tryf.f4 "fmt.Sprintf" [] [] (true, "2e5365e807b902af25876391f63b7994568324d7293be1dbde40a3fecabbcbdb") false false (by kernel_rfl) rfl rfl rfl laidOut (by kernel_rfl) rfl ⟨rfl, rfl, rfl, rfl, rfl, rfl, rfl⟩ rfl rfl (by kernel_rfl) (by kernel_rfl) Tryf.func4 (by kernel_rfl)
    (of_decide_eq_true (by kernel_rfl)) (by unfold Func.isWrapper; first | (rw [if_pos (by decide +kernel)]; kernel_rfl) | (rw [if_neg (by decide +kernel)]; exact ⟨rfl, rfl⟩)) stops.symm rfl stopKnobs.symm (by kernel_rfl)
    (by kernel_rfl) (by kernel_rfl) (by kernel_rfl) (by kernel_rfl) (by kernel_rfl) (by kernel_rfl) (by kernel_rfl) (by kernel_rfl) (by kernel_rfl) rfl (by kernel_rfl) rfl rfl
    rfl rfl
    rfl (by kernel_rfl) (by kernel_rfl) (by kernel_rfl) (by decide) (by kernel_rfl)
    (OpenClaim.moreEntering_of (by kernel_rfl) (by kernel_rfl) (by kernel_rfl) (by kernel_rfl) (by kernel_rfl) (by kernel_rfl) (by kernel_rfl) (by kernel_rfl) (by kernel_rfl) (by kernel_rfl))
    ⟨_, WideRow.started_initial, quiet _⟩
    (fun os started _ H enc _ => lifted os started H enc)
#print axioms proved
end Go.Proofs.YtjbehcabekkjdaaFmt.fnWhereExact
