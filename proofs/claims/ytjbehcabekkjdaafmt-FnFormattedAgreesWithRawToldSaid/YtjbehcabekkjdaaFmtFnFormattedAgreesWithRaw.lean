/-
  The given statement on FnFormattedAgreesWithRaw: for every input the law returns true and leaves its arguments as they were. No condition beyond the statement's own; no text of fmt is come to.
-/
import Derived.Test.YtjbehcabekkjdaaFmtFmtN
import Derived.Test.YtjbehcabekkjdaaFmtOpen
import Derived.Test.YtjbehcabekkjdaaFmtRows
import Derived.Test.YtjbehcabekkjdaaFmtCards
import Derived.WalkKit
import Derived.ProofKit
import Derived.OpenShut
import Derived.ShutString
import Derived.ChangeOld
import Derived.Below
import Derived.Stop.JoinedAt
import Derived.Stop.JoinedTold
import Derived.SevenToldRow
namespace Go.Proofs.YtjbehcabekkjdaaFmt.fnFormattedAgreesWithRaw
open Go.ChangeShapes Go.WideShapes Go.ChangeAt Go.RowKit
open Go.ChangeMaps (open_string shut_string)
open Go.Extern.Stop Go.Stop Go.Extern
set_option linter.unusedVariables false
set_option linter.unusedSimpArgs false

theorem own : ownKnob Tryf.prog.godebug = none := by kernel_rfl
theorem laidOut : laidOutB Tryf.prog = true := by kernel_rfl
theorem stops : Tryf.pinned.checked.prog.stops = ["fmt.Sprintf"] := by kernel_rfl
theorem stopKnobs : Tryf.pinned.checked.prog.stopKnobs = [] := by kernel_rfl
theorem quiet (os : Os) : Stop.quiet Tryf.pinned.checked.prog os := by
  intro k hk
  rw [stopKnobs] at hk
  cases hk


set_option maxHeartbeats 2000000
set_option maxRecDepth 100000
/-! ### THE WALK -/
theorem walk (F : Interp) (a0 : Option Addr) (cap0 : Nat) (z0 : List Fr) (a1 : ByteArray) (a2 : Int) (a3 : Bool) (w : World) (hF : F.told.answers w.tape) (w0 : FrsIn w a0 cap0 z0) (w1 : a1.size ≤ maxLen) (w2 : (Lit.int .i64 a2).wf = true) :
    Calls Tryf.prog 5 #[.slice a0 z0.length cap0, .string a1, .int .i64 a2, .bool a3] w fun e w' => e = .returned (.bool true) ∧ Below w.heap.size w w' := by
  obtain ⟨hfr, hnil, hlen, hwf⟩ := w0
  have hnm : ∀ i, i < z0.length → z0[i]!.name.size ≤ 9223372036854775807 := fun i hi => (hwf i hi).1
  unfold maxLen at hlen w1
  have HFR := Lib.hid hfr
  have HNIL := Lib.hid hnil
  have HNM := Lib.hid hnm
  have HG := Lib.hid hF
  have HW2 := Lib.hid w2
  clear hfr hnil hwf hnm hF w2
  have HB := Lib.hid (bytesFnFormattedAgreesWithRaw_any a0 cap0 z0 a1 a2 a3 w HFR.out hlen w1 HNM.out)
  go_enter Tryf.func5, Tryf.ntmps5
  go_wp2_with fail
  refine HB.out.mono ?_
  rintro e w' ⟨vb, rfl, hvb, rfl⟩
  cases vb with
  | false =>
    clear hvb
    go_wp2_with fail
    go_ret
    exact ⟨rfl, Below.refl _ _⟩
  | true =>
    have hNa := hvb rfl
    have HN := Lib.hid hNa
    clear hvb hNa HB
    by_cases hl2 : z0.length ≤ 4096 ∧ a1.size ≤ 65536
    · obtain ⟨hl2, hs2⟩ := hl2
      have t1 : decide ((4096 : Int) < (z0.length : Int)) = false := decide_eq_false (by omega)
      have t2 : decide ((65536 : Int) < (a1.size : Int)) = false := decide_eq_false (by omega)
      have HB := Lib.hid (framesOK_any a0 cap0 z0 a1 w HFR.out HN.out)
      go_wp2_with fail
      refine HB.out.mono ?_
      rintro e w' ⟨vb, rfl, hvb, rfl⟩
      cases vb with
      | false =>
        clear hvb
        go_wp2_with fail
        go_ret
        exact ⟨rfl, Below.refl _ _⟩
      | true =>
        clear hvb HB
        go_wp2_with fail
        refine (copyF_any a0 cap0 z0 w HFR.out HNIL.out hl2).mono ?_
        rintro e w1 ⟨a', c', rfl, hf1, hb1, hc1, hc2, hn1, ho1⟩
        have HF1 := Lib.hid hf1
        have HB1 := Lib.hid hb1
        clear hf1 hb1 hn1 ho1
        go_wp2_with fail
        refine (build_any a' c' z0 a1 a2 a3 w1 HF1.out hl2).mono ?_
        rintro e w2 ⟨B2, l2, c2, g2, rfl, hbu, hb2⟩
        have HU2 := Lib.hid hbu
        have HB2 := Lib.hid (HB1.out.trans (hb2.mono HB1.out.size))
        clear hbu hb2 HF1 HB1
        go_wp2_with fail
        go_loopw [11] (fun v11 wr => ∃ k : Nat, k ≤ z0.length ∧ v11 = .int .i64 k ∧ Hid (Below w.heap.size w wr) ∧ Hid (Built wr B2 l2 c2 g2 z0 a1 a2 a3)) (fun v11 _ => z0.length - (intOf v11).toNat)
        case atStart => exact ⟨0, Nat.zero_le _, rfl, HB2, HU2⟩
        case round =>
          obtain ⟨k, hk, rfl, HB, HU⟩ := hrel
          by_cases hlt : k < z0.length
          · have h5 : (k : Int) < (z0.length : Int) := by omega
            have hs2' := rawOf_size (child := a3) hlt HN.out (by omega) HW2.out
            have hr2 := rawOf_two z0 k a1 a2 a3
            obtain ⟨⟨s, bb⟩, hrr⟩ : ∃ r, rawOf z0 k a1 a2 a3 = r := ⟨_, rfl⟩
            rw [hrr] at hs2' hr2
            simp only at hs2' hr2
            obtain ⟨hs0, hs1⟩ := hs2'
            have HRR := Lib.hid hrr
            have HG1 := Lib.hid (told_at HG.out HB.out)
            clear hrr
            go_wp2_with fail
            refine (zzAtB HU.out hlt).mono ?_
            rintro e w' ⟨rfl, rfl⟩
            go_wp2_with fail
            refine (zzRaw_any F HU.out hlt HG1.out (by omega) HW2.out).mono ?_
            rw [HRR.out]
            rintro e w4 ⟨rfl, hb4⟩
            have HU4 := Lib.hid (HU.out.kept hb4)
            have HB4 := Lib.hid (HB.out.trans (hb4.mono HB.out.size))
            have HG4 := Lib.hid (told_at HG.out HB4.out)
            clear hb4
            go_wp2_with fail
            refine (zzFmt_any F HU4.out hlt HG4.out HN.out HW2.out).mono ?_
            rw [HRR.out]
            rintro e w5 ⟨rfl, hb5⟩
            have HU5 := Lib.hid (HU4.out.kept hb5)
            have HB5 := Lib.hid (HB4.out.trans (hb5.mono HB4.out.size))
            clear hb5
            by_cases h0 : k = 0
            · subst h0
              have hfm : fmtOf (s, bb) = s := by rw [hr2]; rfl
              rw [hfm]
              clear hr2 hfm
              go_wp2_with fail
              go_roundw
              case rel => exact ⟨0 + 1, by omega, by go_num, HB5, HU5⟩
              case measure => simp [intOf]; omega
            · have tk : ((k : Int) == 0) = false := by simp; omega
              have te1 : s.toList.isEmpty = false := by rw [ByteArray.toList_eq]; cases hh : s.data.toList with | nil => exact absurd hh (head_ne hs0) | cons _ _ => rfl
              have te2 : (!s.toList.isEmpty) = true := by rw [te1]; rfl
              have hg := head0_get hs0
              have hbf : bb = false := by rw [hr2]; exact decide_eq_false h0
              subst hbf
              clear hr2 h0
              by_cases h4 : head0 s = 40
              · have hfm : fmtOf (s, false) = preFn ++ s := by unfold fmtOf; rw [if_neg (by simp), if_pos (.inl h4)]
                have tb1 : (((s[0]'hs0).toNat : Int) == 40) = true := by rw [hg, h4]; rfl
                rw [hfm]
                unfold preFn
                clear hfm hg h4
                go_wp2_with fail
                go_roundw
                case rel => exact ⟨k + 1, by omega, by go_num, HB5, HU5⟩
                case measure => simp [intOf]; omega
              · by_cases h6 : head0 s = 60
                · have hfm : fmtOf (s, false) = preFn ++ s := by unfold fmtOf; rw [if_neg (by simp), if_pos (.inr h6)]
                  have tb1 : (((s[0]'hs0).toNat : Int) == 40) = false := by rw [hg]; simp; omega
                  have tb2 : (((s[0]'hs0).toNat : Int) == 60) = true := by rw [hg, h6]; rfl
                  rw [hfm]
                  unfold preFn
                  clear hfm hg h4 h6
                  go_wp2_with fail
                  go_roundw
                  case rel => exact ⟨k + 1, by omega, by go_num, HB5, HU5⟩
                  case measure => simp [intOf]; omega
                · have hfm : fmtOf (s, false) = preFq ++ s ++ sufQ := by unfold fmtOf; rw [if_neg (by simp), if_neg (by rintro (h | h) <;> contradiction)]
                  have tb1 : (((s[0]'hs0).toNat : Int) == 40) = false := by rw [hg]; simp; omega
                  have tb2 : (((s[0]'hs0).toNat : Int) == 60) = false := by rw [hg]; simp; omega
                  rw [hfm]
                  unfold preFq sufQ
                  clear hfm hg h4 h6
                  go_wp2_with fail
                  go_roundw
                  case rel => exact ⟨k + 1, by omega, by go_num, HB5, HU5⟩
                  case measure => simp [intOf]; omega
          · obtain rfl : k = z0.length := by omega
            go_wp2_with fail
            go_ret
            exact ⟨rfl, HB.out⟩
    · rcases (show 4096 < z0.length ∨ (z0.length ≤ 4096 ∧ 65536 < a1.size) by omega) with h | ⟨h, h'⟩
      · have t1 : decide ((4096 : Int) < (z0.length : Int)) = true := decide_eq_true (by omega)
        go_wp2_with fail
        go_ret
        exact ⟨rfl, Below.refl _ _⟩
      · have t1 : decide ((4096 : Int) < (z0.length : Int)) = false := decide_eq_false (by omega)
        have t2 : decide ((65536 : Int) < (a1.size : Int)) = true := decide_eq_true (by omega)
        go_wp2_with fail
        go_ret
        exact ⟨rfl, Below.refl _ _⟩

/-! ### THE ROW's STEP -/
set_option maxRecDepth 100000 in
theorem lifted (os : Os) (started : os.Started) (H : Type) (enc : TypeId × Value → H) :
    ReturnsInTold none {} Tryf.checked os 5 .any Input.okWide ((OpenSpec.ofChange Rows.fnFormattedAgreesWithRawSpec).preRow enc Tryf.prog Tryf.f5 [] false []) (fun G => ((OpenSpec.ofChange Rows.fnFormattedAgreesWithRawSpec).at G).post enc Tryf.prog Tryf.f5 false true false false) (aloneAtReturn Tryf.prog) nothingAlways := by
  refine returnsInTold_of_row (C := Tryf.checked) (s := OpenSpec.ofChange Rows.fnFormattedAgreesWithRawSpec) (by kernel_rfl) own started (by kernel_rfl) Tryf.func5
    (OpenSpec.witness_stopped (enc := enc) (C := Tryf.checked) false ⟨#[], #[.slice none 0 0, .string ByteArray.empty, .int .i64 0, .bool false], []⟩ 8 (by kernel_rfl) (by kernel_rfl) (by kernel_rfl) (by kernel_rfl)) ?_
  intro G W base args ds gs before _ hF hval0 hW _ _ _ _ _
  have hval : ∀ (j : Nat) t v, Tryf.f5.params[j]? = some t → args[j]? = some v → Value.okWide Tryf.prog W .any base t v := hval0
  have hW' := hW
  obtain ⟨p, q, hA0, hV, rfl, hfz, hnd⟩ := hW
  have hA : DataW.TrodAll enc Tryf.prog W 0 (fun _ => true) true Tryf.f5.params.toList args.toList ds p := hA0
  rw [Tryf.params5] at hA hval
  obtain ⟨v0, vs0, d0, ds0, p0, q0, hargs, rfl, rfl, h0, r0⟩ := trodAll_cons hA
  obtain ⟨v1, vs1, d1, ds1, p1, q1, rfl, rfl, rfl, h1, r1⟩ := trodAll_cons r0
  obtain ⟨v2, vs2, d2, ds2, p2, q2, rfl, rfl, rfl, h2, r2⟩ := trodAll_cons r1
  obtain ⟨v3, vs3, d3, ds3, p3, q3, rfl, rfl, rfl, h3, r3⟩ := trodAll_cons r2
  obtain ⟨rfl, rfl, rfl⟩ := trodAll_nil r3
  obtain rfl : args = #[v0, v1, v2, v3] := by cases args; simp_all
  obtain ⟨rfl, rfl⟩ := trodVars_none hV
  obtain ⟨a0, len0, cap0, rfl⟩ := okWide_slice Tryf.underlying22 (hval 0 22 v0 rfl rfl)
  have k0 := h0
  have lt0 : ∀ x ∈ p0, x.block < W.heap.size := by obtain ⟨m, hm⟩ := k0; exact DataW.trod_lt m _ _ _ hm
  obtain ⟨z0, hz0, w0⟩ : ∃ fs : List Fr, fs.length = len0 ∧ FrsIn W a0 cap0 fs := by
    obtain ⟨fuel, hf⟩ := h0
    exact frs_open hf
  subst hz0
  obtain ⟨a1, rfl, rfl, rfl, w1⟩ := open_string Tryf.underlying9 (hval 1 9 v1 rfl rfl) h1
  obtain ⟨a2, rfl, rfl, rfl, w2⟩ := open_int Tryf.underlying3 (hval 2 3 v2 rfl rfl) h2
  obtain ⟨a3, rfl, rfl, rfl⟩ := open_bool Tryf.underlying4 (hval 3 4 v3 rfl rfl) h3
  clear hA0 hval0
  refine (walk G a0 cap0 z0 a1 a2 a3 W hF w0 w1 w2).mono fun e W' ⟨he, bel⟩ => ?_
  subst he
  exact ⟨_, rfl, _, _, _, [], _, [], hW', trodAll_mk1 (shut_bool Tryf.underlying4 _), (trodAll_cons_mk (Below.trod laidOut (by kernel_rfl) (of_decide_eq_true (by kernel_rfl)) k0 bel lt0) (trodAll_cons_mk (shut_string Tryf.underlying9 w1) (trodAll_cons_mk (shut_int Tryf.underlying3 w2) (trodAll_cons_mk (shut_bool Tryf.underlying4 _) trodAll_mk0)))), rfl, bel.frame _, fun h => by cases h⟩

/-- ████ THE STATEMENT ████ -/
theorem proved : Rows.FnFormattedAgreesWithRawToldSaid :=
  Claim7.holds_of_told_any 5 Tryf.f5 "fmt.Sprintf" [] [] (true, "2e5365e807b902af25876391f63b7994568324d7293be1dbde40a3fecabbcbdb") false false (by kernel_rfl) rfl rfl rfl laidOut (by kernel_rfl) rfl ⟨rfl, rfl, rfl, rfl, rfl, rfl, rfl⟩ rfl rfl (by kernel_rfl) (by kernel_rfl) Tryf.func5 (by kernel_rfl)
    (of_decide_eq_true (by kernel_rfl)) (by unfold Func.isWrapper; first | (rw [if_pos (by decide +kernel)]; kernel_rfl) | (rw [if_neg (by decide +kernel)]; exact ⟨rfl, rfl⟩)) stops.symm rfl stopKnobs.symm (by kernel_rfl)
    (by kernel_rfl) (by kernel_rfl) (by kernel_rfl) (by kernel_rfl) (by kernel_rfl) (by kernel_rfl) (by kernel_rfl) (by kernel_rfl) (by kernel_rfl) rfl (by kernel_rfl) rfl rfl
    rfl rfl
    rfl (by kernel_rfl) (by kernel_rfl) (by kernel_rfl) (by decide) (by kernel_rfl)
    (OpenClaim.moreEntering_of (by kernel_rfl) (by kernel_rfl) (by kernel_rfl) (by kernel_rfl) (by kernel_rfl) (by kernel_rfl) (by kernel_rfl) (by kernel_rfl) (by kernel_rfl) (by kernel_rfl))
    ⟨_, WideRow.started_initial, quiet _⟩
    (fun os started _ H enc _ => lifted os started H enc)
#print axioms proved
end Go.Proofs.YtjbehcabekkjdaaFmt.fnFormattedAgreesWithRaw
