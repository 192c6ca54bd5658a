/-
  The given statement on FnFindLiteralAgreesWithNaiveScan: for every input the law returns true and leaves its arguments as they were. No condition beyond the statement's own; no text of fmt is come to.
-/
import Derived.Test.YtankjgbcpdodgaaFmtFindWalk
import Derived.Laws.IdiomStrings
import Derived.BigGuardPart
import Derived.Test.YtankjgbcpdodgaaFmtRows
import Derived.Test.YtankjgbcpdodgaaFmtCards
import Derived.WalkKit
import Derived.ProofKit
import Derived.OpenShut
import Derived.ShutString
import Derived.ChangeOld
import Derived.Below
import Derived.Stop.JoinedAt
import Derived.Stop.JoinedTold
import Derived.SevenToldRow
namespace Go.Proofs.YtankjgbcpdodgaaFmt.fnFindLiteralAgreesWithNaiveScan
open Go.ChangeShapes Go.WideShapes Go.ChangeAt Go.RowKit
open Go.ChangeMaps (open_string shut_string)
open Go.Extern.Stop Go.Stop Go.Extern
set_option linter.unusedVariables false
set_option linter.unusedSimpArgs false

theorem own : ownKnob Tryf.prog.godebug = none := by kernel_rfl
theorem laidOut : laidOutB Tryf.prog = true := by kernel_rfl
theorem stops : Tryf.pinned.checked.prog.stops = ["fmt.Sprintf, its operands' methods called"] := by kernel_rfl
theorem stopKnobs : Tryf.pinned.checked.prog.stopKnobs = [] := by kernel_rfl
theorem quiet (os : Os) : Stop.quiet Tryf.pinned.checked.prog os := by
  intro k hk
  rw [stopKnobs] at hk
  cases hk

/-- What the walk is told of a slice of integers that came in. -/
def IsRow (k : IntKind) (w : World) (a : Option Addr) (len cap : Nat) (zs : List Int) : Prop :=
  (a = none ∧ len = 0 ∧ cap = 0 ∧ zs = []) ∨
  ∃ x, a = some x ∧ len ≤ cap ∧ cap ≤ maxLen ∧ zs.length = cap ∧ (∀ i, i < zs.length → w.cell? (x.add i) = some (.int k (zs.getD i 0))) ∧ ∀ n ∈ zs, (Lit.int k n).wf = true

/-- What 'IsRow' says, over the elements alone. -/
theorem isRow_told {k : IntKind} {w : World} {a : Option Addr} {len cap : Nat} {zs : List Int} (h : IsRow k w a len cap zs) :
    ∃ ys : List Int, ys.length = len ∧ RowInt k w a ys ∧ (a = none → ys.length = 0) ∧ len ≤ 9223372036854775807 ∧ (∀ n, n ∈ ys → (Lit.int k n).wf = true) := by
  rcases h with ⟨rfl, rfl, rfl, rfl⟩ | ⟨x, rfl, hl, hm, hz, hcell, hwz⟩
  · exact ⟨[], rfl, fun h0 => absurd h0 (Nat.lt_irrefl _), fun _ => rfl, by omega, fun n hn => by simp at hn⟩
  · refine ⟨zs.take len, by simp; omega, fun h0 => ?_, fun h0 => (by cases h0), by unfold maxLen at hm; omega, fun n hn => hwz n (List.mem_of_mem_take hn)⟩
    have h0' : 0 < len := by simp at h0; omega
    have hsp : x.spot = none := by simpa [Addr.add] using World.cell?_spot (hcell 0 (by omega))
    obtain ⟨b, off, spot⟩ := x
    simp only at hsp
    subst hsp
    refine ⟨b, off, rfl, fun i hi => ?_⟩
    have h1 := hcell i (by simp at hi; omega)
    rw [addr_add] at h1
    rw [h1]
    simp only [List.length_take] at hi
    rw [List.getD_eq_getElem?_getD, List.getD_eq_getElem?_getD, List.getElem?_take_of_lt (by omega)]

theorem guard_any (s : ByteArray) (a : Option Addr) (n cap : Nat) (x y : Int) (hs : s.size ≤ 9223372036854775807) (hn : n ≤ 9223372036854775807) (w : World) : Calls Tryf.prog 17 #[.string s, .slice a n cap, .int .i64 x, .int .i64 y] w fun e w' => e = .returned (.bool (decide (s.size + n ≤ 1048576))) ∧ w = w' := by
  rcases (show 1048576 < s.size ∨ (s.size ≤ 1048576 ∧ 1048576 < n) ∨ (s.size ≤ 1048576 ∧ n ≤ 1048576 ∧ 1048576 < s.size + n) ∨ s.size + n ≤ 1048576 by omega) with h | ⟨h, h'⟩ | ⟨h, h', h''⟩ | h
  all_goals
    go_enter Tryf.func17, Tryf.ntmps17
    go_wp2
    go_ret
    exact ⟨ret_bool (by simp; omega), rfl⟩

set_option maxHeartbeats 2000000
set_option maxRecDepth 100000
/-! ### THE WALK -/
theorem walk (a0 : ByteArray) (a1 : Option Addr) (len1 cap1 : Nat) (z1 : List Int) (a2 : Int) (a3 : Int) (w : World) (w0 : a0.size ≤ maxLen) (w1 : IsRow .u8 w a1 len1 cap1 z1) (w2 : (Lit.int .i64 a2).wf = true) (w3 : (Lit.int .i64 a3).wf = true) :
    Calls Tryf.prog 5 #[.string a0, .slice a1 len1 cap1, .int .i64 a2, .int .i64 a3] w fun e w' => e = .returned (.bool true) ∧ Below w.heap.size w w' := by
  obtain ⟨ys, rfl, hrow, hnil, hmx, hwf⟩ := isRow_told w1
  have hby : ∀ z, z ∈ ys → 0 ≤ z ∧ z ≤ 255 := fun z hz => bounds_u8 (hwf z hz)
  have b2 := bounds_i64 w2
  unfold maxLen at w0
  clear hwf w1
  have HBY := Lib.hid hby
  have HROW := Lib.hid hrow
  have HNIL := Lib.hid hnil
  clear hby hrow hnil
  rcases (show 1048576 < a0.size + ys.length ∨ (a0.size + ys.length ≤ 1048576 ∧ 4096 < a0.size) ∨ (a0.size + ys.length ≤ 1048576 ∧ a0.size ≤ 4096 ∧ 65536 < ys.length) ∨ (a0.size ≤ 4096 ∧ ys.length ≤ 65536) by omega) with q | ⟨q, q'⟩ | ⟨q, q', q''⟩ | ⟨q, q'⟩
  · have tb : decide (a0.size + ys.length ≤ 1048576) = false := decide_eq_false (by omega)
    go_enter Tryf.func5, Tryf.ntmps5
    go_wp2_with (go_at_call 17; refine (guard_any _ _ _ _ _ _ (by omega) (by omega) _).mono ?_; rintro e w' ⟨rfl, rfl⟩)
    go_ret
    exact ⟨rfl, Below.refl _ _⟩
  · have tb : decide (a0.size + ys.length ≤ 1048576) = true := decide_eq_true (by omega)
    go_enter Tryf.func5, Tryf.ntmps5
    go_wp2_with (go_at_call 17; refine (guard_any _ _ _ _ _ _ (by omega) (by omega) _).mono ?_; rintro e w' ⟨rfl, rfl⟩)
    go_ret
    exact ⟨rfl, Below.refl _ _⟩
  · have tb : decide (a0.size + ys.length ≤ 1048576) = true := decide_eq_true (by omega)
    go_enter Tryf.func5, Tryf.ntmps5
    go_wp2_with (go_at_call 17; refine (guard_any _ _ _ _ _ _ (by omega) (by omega) _).mono ?_; rintro e w' ⟨rfl, rfl⟩)
    go_ret
    exact ⟨rfl, Below.refl _ _⟩
  · have tb : decide (a0.size + ys.length ≤ 1048576) = true := decide_eq_true (by omega)
    rcases (show a2 < 0 ∨ 0 ≤ a2 by omega) with p | p
    · go_enter Tryf.func5, Tryf.ntmps5
      go_wp2_with (go_at_call 17; refine (guard_any _ _ _ _ _ _ (by omega) (by omega) _).mono ?_; rintro e w' ⟨rfl, rfl⟩)
      go_ret
      exact ⟨rfl, Below.refl _ _⟩
    · obtain ⟨off, rfl⟩ : ∃ off : Nat, a2 = (off : Int) := ⟨a2.toNat, by omega⟩
      have hoff : off ≤ 9223372036854775807 := by omega
      clear b2 p
      cases hpl : (bz a0).all plainZ with
      | false =>
        have HPL := Lib.hid hpl
        clear hpl
        go_enter Tryf.func5, Tryf.ntmps5
        go_wp2_with (first | (go_at_call 17; refine (guard_any _ _ _ _ _ _ (by omega) (by omega) _).mono ?_; rintro e w' ⟨rfl, rfl⟩) | (go_at_call 8; refine (allPlain_is _ _ (by omega) HPL).mono ?_; rintro e w' ⟨rfl, rfl⟩))
        go_ret
        exact ⟨rfl, Below.refl _ _⟩
      | true =>
        have HPL := Lib.hid hpl
        clear hpl
        obtain ⟨S, hS⟩ : ∃ S, litStarts ys (bz a0) off = S := ⟨_, rfl⟩
        have hSb : ∀ k, k < S.length → S.getD k 0 ≤ 65536 := fun k hk => by
          have := (starts_ge ys (bz a0) _ off (Nat.le_refl _) (S.getD k 0) (by rw [hS, List.getD_eq_getElem?_getD, List.getElem?_eq_getElem hk]; exact List.getElem_mem hk)).2
          omega
        have hSl : S.length ≤ 65537 := by rw [← hS]; exact lit_len ys (bz a0) off q'
        obtain ⟨fb, r, hfb, hcase⟩ := lit_first hS
        obtain ⟨n, hn⟩ : ∃ n, kept S.length fb a3 = n := ⟨_, rfl⟩
        have hnS : n ≤ S.length := by rw [← hn]; exact kept_le _ _ _
        have HS := Lib.hid hS
        have HSB := Lib.hid hSb
        have HFB := Lib.hid hfb
        have HN := Lib.hid hn
        clear hS hSb hfb hn
        go_enter Tryf.func5, Tryf.ntmps5
        go_wp2_with (first | (go_at_call 17; refine (guard_any _ _ _ _ _ _ (by omega) (by omega) _).mono ?_; rintro e w' ⟨rfl, rfl⟩) | (go_at_call 8; refine (allPlain_is _ _ (by omega) HPL).mono ?_; rintro e w' ⟨rfl, rfl⟩))
        refine (cpB_any a1 cap1 ys w HROW.out HNIL.out (by omega)).mono ?_
        rintro e w1 ⟨a', c', rfl, hn', hf', hr', hb1⟩
        have HF := Lib.hid hf'
        have HR1 := Lib.hid hr'
        have HB1 := Lib.hid hb1
        clear hn' hf' hr' hb1
        go_wp2_with fail
        refine (starts_any a0 a' ys c' off w1 HR1.out (fun x hx => (HF.out x hx).2) (by omega) (by omega) HBY.out hoff).mono ?_
        rw [HS.out]
        rintro e w2 ⟨g, gcap, rfl, hown, hb2⟩
        have HNA := Lib.hid (natsAt_of hown)
        have HB2 := Lib.hid (HB1.out.trans (hb2.mono HB1.out.size))
        have HR2 := Lib.hid (HR1.out.below hb2 (Nat.le_refl _))
        have HF2 : Hid (∀ x, a' = some x → x.block < w2.heap.size) := Lib.hid (fun x hx => Nat.lt_of_lt_of_le (HF.out x hx).2 hb2.size)
        clear hown hb2
        rcases hcase with ⟨hc1, hc2, hc3⟩ | ⟨hc1, hc2⟩
        · have k0 := HNA.out 0 hc1
          rw [hc2] at k0
          have hc4 : decide (0 < S.length) = true := decide_eq_true hc1
          clear hc2
          go_wp2_with (go_at_call 19; refine (kept_is _ (by omega) HN).mono ?_; rintro e w' ⟨rfl, rfl⟩)
          refine (find_litAt a0 off a3 HS.out HN.out (by omega) HPL (HFB.out.symm) HR2.out HF2.out HBY.out (by omega) hoff).mono ?_
          rintro e w3 ⟨g3, cap3, rfl, hfd, hb3⟩
          have HFD := Lib.hid hfd
          have HB3 := Lib.hid (HB2.out.trans (hb3.mono HB2.out.size))
          have HNA3 := Lib.hid (HNA.out.below hb3 (Nat.le_refl _))
          clear hfd hb3
          go_wp2_with fail
          go_loopw [14] (fun v14 wr => ∃ k : Nat, k ≤ n ∧ v14 = .int .i64 k ∧ Hid (∃ q, wr = w3.drewN q)) (fun v14 _ => n - (intOf v14).toNat)
          case atStart => exact ⟨0, Nat.zero_le _, rfl, Lib.hid ⟨0, rfl⟩⟩
          case round =>
            obtain ⟨k, hk, rfl, HQ⟩ := hrel
            by_cases hlt : k < n
            · have hkS : k < S.length := by omega
              obtain ⟨m, ao, c, hcell, hmd⟩ := HFD.out k hlt
              have hsb := HSB.out k hkS
              have hall := HNA3.out k hkS
              obtain ⟨sk, hsk⟩ : ∃ sk, S.getD k 0 = sk := ⟨_, rfl⟩
              simp only [hsk] at hsb hall hmd
              clear hsk
              obtain ⟨us, hmu, hl2, hf0, hf1, hv0, hv1⟩ := two_words hmd (by omega) (by omega)
              have hcw : wr.cell? ⟨g3, k, none⟩ = some (.pointer (some ⟨m, 0, none⟩)) := by obtain ⟨q, rfl⟩ := HQ.out; exact hcell
              have haw : wr.cell? ⟨g, k, none⟩ = some (.int .i64 (sk : Int)) := by obtain ⟨q, rfl⟩ := HQ.out; exact hall
              have HMW : Hid (MD wr m ao c us) := by obtain ⟨q, rfl⟩ := HQ.out; exact Lib.hid (hmu.drewO q)
              have HL0 : Hid (0 < us.length) := Lib.hid (by omega)
              have HL1 : Hid (1 < us.length) := Lib.hid (by omega)
              have HL2 : Hid ((us.length : Int) = 2) := Lib.hid (by omega)
              have HV1 : Hid (us.getD 1 0 / 2 = (sk : Int) + (a0.size : Int)) := Lib.hid (by rw [hv1]; exact Int.natCast_add _ _)
              have HV0 := Lib.hid hv0
              have HF0 := Lib.hid hf0
              have HF1 := Lib.hid hf1
              have h1 : (k : Int) < (n : Int) := by omega
              have h2 : (k : Int) < (S.length : Int) := by omega
              clear hcell hall hmd hmu hl2 hf0 hf1 hv0 hv1
              go_wp2_with (first | (go_at_call 12; refine (capLen_is HMW.out HL2.out).mono ?_; rintro e w' ⟨rfl, rfl⟩) | (go_at_call 15; refine (pos_z 0 HMW.out (v := false) HL0.out (by rfl) HF0.out).mono ?_; rintro e w' ⟨rfl, rfl⟩) | (go_at_call 15; refine (pos_z 1 HMW.out (v := false) HL1.out (by rfl) HF1.out).mono ?_; rintro e w' ⟨rfl, rfl⟩))
              have h3 : IntKind.i64.wrap ((sk : Int) + (a0.size : Int)) = (sk : Int) + (a0.size : Int) := by rw [IntWalk.i64_in _ (by omega)]
              go_quiet ((first | (go_at_call 14; exact Calls.quiet_of_same ((cap_z 0 (HMW.out.drewO _) (v := (sk : Int)) HL0.out (by rfl) HV0.out).mono fun _ _ h => ⟨h.1, h.2.symm⟩)) | (go_at_call 14; exact Calls.quiet_of_same ((cap_z 1 (HMW.out.drewO _) (v := (sk : Int) + (a0.size : Int)) HL1.out (by rfl) HV1.out).mono fun _ _ h => ⟨h.1, h.2.symm⟩))))
              generalize hwd : World.drewN wr _ = wd
              have HQ2 : Hid (∃ q, wd = w3.drewN q) := by subst hwd; obtain ⟨q, hq⟩ := HQ.out; rw [hq]; exact Lib.hid ⟨q + nq, by rw [World.drewN_drewN]⟩
              clear hwd h3
              go_wp2_with fail
              go_roundw
              case rel => exact ⟨k + 1, by omega, by go_num, HQ2⟩
              case measure => simp [intOf]; omega
            · obtain rfl : k = n := by omega
              go_wp2_with fail
              go_ret
              obtain ⟨q, rfl⟩ := HQ.out
              exact ⟨rfl, below_drewN HB3.out q⟩
        · subst hc2
          have hc4 : decide (0 < S.length) = false := decide_eq_false (by omega)
          have HC1 := Lib.hid hc1
          clear hc1
          go_wp2_with (go_at_call 19; refine (kept_is _ (by omega) HN).mono ?_; rintro e w' ⟨rfl, rfl⟩)
          refine (find_litAt a0 off a3 HS.out HN.out (by omega) HPL (HFB.out.symm) HR2.out HF2.out HBY.out (by omega) hoff).mono ?_
          rintro e w3 ⟨g3, cap3, rfl, hfd, hb3⟩
          have HFD := Lib.hid hfd
          have HB3 := Lib.hid (HB2.out.trans (hb3.mono HB2.out.size))
          have HNA3 := Lib.hid (HNA.out.below hb3 (Nat.le_refl _))
          clear hfd hb3
          go_wp2_with fail
          go_loopw [14] (fun v14 wr => ∃ k : Nat, k ≤ n ∧ v14 = .int .i64 k ∧ Hid (∃ q, wr = w3.drewN q)) (fun v14 _ => n - (intOf v14).toNat)
          case atStart => exact ⟨0, Nat.zero_le _, rfl, Lib.hid ⟨0, rfl⟩⟩
          case round =>
            obtain ⟨k, hk, rfl, HQ⟩ := hrel
            by_cases hlt : k < n
            · have hkS : k < S.length := by omega
              obtain ⟨m, ao, c, hcell, hmd⟩ := HFD.out k hlt
              have hsb := HSB.out k hkS
              have hall := HNA3.out k hkS
              obtain ⟨sk, hsk⟩ : ∃ sk, S.getD k 0 = sk := ⟨_, rfl⟩
              simp only [hsk] at hsb hall hmd
              clear hsk
              obtain ⟨us, hmu, hl2, hf0, hf1, hv0, hv1⟩ := two_words hmd (by omega) (by omega)
              have hcw : wr.cell? ⟨g3, k, none⟩ = some (.pointer (some ⟨m, 0, none⟩)) := by obtain ⟨q, rfl⟩ := HQ.out; exact hcell
              have haw : wr.cell? ⟨g, k, none⟩ = some (.int .i64 (sk : Int)) := by obtain ⟨q, rfl⟩ := HQ.out; exact hall
              have HMW : Hid (MD wr m ao c us) := by obtain ⟨q, rfl⟩ := HQ.out; exact Lib.hid (hmu.drewO q)
              have HL0 : Hid (0 < us.length) := Lib.hid (by omega)
              have HL1 : Hid (1 < us.length) := Lib.hid (by omega)
              have HL2 : Hid ((us.length : Int) = 2) := Lib.hid (by omega)
              have HV1 : Hid (us.getD 1 0 / 2 = (sk : Int) + (a0.size : Int)) := Lib.hid (by rw [hv1]; exact Int.natCast_add _ _)
              have HV0 := Lib.hid hv0
              have HF0 := Lib.hid hf0
              have HF1 := Lib.hid hf1
              have h1 : (k : Int) < (n : Int) := by omega
              have h2 : (k : Int) < (S.length : Int) := by omega
              clear hcell hall hmd hmu hl2 hf0 hf1 hv0 hv1
              go_wp2_with (first | (go_at_call 12; refine (capLen_is HMW.out HL2.out).mono ?_; rintro e w' ⟨rfl, rfl⟩) | (go_at_call 15; refine (pos_z 0 HMW.out (v := false) HL0.out (by rfl) HF0.out).mono ?_; rintro e w' ⟨rfl, rfl⟩) | (go_at_call 15; refine (pos_z 1 HMW.out (v := false) HL1.out (by rfl) HF1.out).mono ?_; rintro e w' ⟨rfl, rfl⟩))
              have h3 : IntKind.i64.wrap ((sk : Int) + (a0.size : Int)) = (sk : Int) + (a0.size : Int) := by rw [IntWalk.i64_in _ (by omega)]
              go_quiet ((first | (go_at_call 14; exact Calls.quiet_of_same ((cap_z 0 (HMW.out.drewO _) (v := (sk : Int)) HL0.out (by rfl) HV0.out).mono fun _ _ h => ⟨h.1, h.2.symm⟩)) | (go_at_call 14; exact Calls.quiet_of_same ((cap_z 1 (HMW.out.drewO _) (v := (sk : Int) + (a0.size : Int)) HL1.out (by rfl) HV1.out).mono fun _ _ h => ⟨h.1, h.2.symm⟩))))
              generalize hwd : World.drewN wr _ = wd
              have HQ2 : Hid (∃ q, wd = w3.drewN q) := by subst hwd; obtain ⟨q, hq⟩ := HQ.out; rw [hq]; exact Lib.hid ⟨q + nq, by rw [World.drewN_drewN]⟩
              clear hwd h3
              go_wp2_with fail
              go_roundw
              case rel => exact ⟨k + 1, by omega, by go_num, HQ2⟩
              case measure => simp [intOf]; omega
            · obtain rfl : k = n := by omega
              go_wp2_with fail
              go_ret
              obtain ⟨q, rfl⟩ := HQ.out
              exact ⟨rfl, below_drewN HB3.out q⟩

/-! ### THE ROW's STEP -/
set_option maxRecDepth 100000 in
theorem lifted (os : Os) (started : os.Started) (H : Type) (enc : TypeId × Value → H) :
    ReturnsInTold none {} Tryf.checked os 5 .any Input.okWide ((OpenSpec.ofChange Rows.fnFindLiteralAgreesWithNaiveScanSpec).preRow enc Tryf.prog Tryf.f5 [] false []) (fun G => ((OpenSpec.ofChange Rows.fnFindLiteralAgreesWithNaiveScanSpec).at G).post enc Tryf.prog Tryf.f5 false true false false) (aloneAtReturn Tryf.prog) nothingAlways := by
  refine returnsInTold_of_row (C := Tryf.checked) (s := OpenSpec.ofChange Rows.fnFindLiteralAgreesWithNaiveScanSpec) (by kernel_rfl) own started (by kernel_rfl) Tryf.func5
    (OpenSpec.witness_stopped (enc := enc) (C := Tryf.checked) false ⟨#[], #[.string ByteArray.empty, .slice none 0 0, .int .i64 0, .int .i64 0], []⟩ 8 (by kernel_rfl) (by kernel_rfl) (by kernel_rfl) (by kernel_rfl)) ?_
  intro G W base args ds gs before _ hF hval0 hW _ _ _ _ _
  have hval : ∀ (j : Nat) t v, Tryf.f5.params[j]? = some t → args[j]? = some v → Value.okWide Tryf.prog W .any base t v := hval0
  have hW' := hW
  obtain ⟨p, q, hA0, hV, rfl, hfz, hnd⟩ := hW
  have hA : DataW.TrodAll enc Tryf.prog W 0 (fun _ => true) true Tryf.f5.params.toList args.toList ds p := hA0
  rw [Tryf.params5] at hA hval
  obtain ⟨v0, vs0, d0, ds0, p0, q0, hargs, rfl, rfl, h0, r0⟩ := trodAll_cons hA
  obtain ⟨v1, vs1, d1, ds1, p1, q1, rfl, rfl, rfl, h1, r1⟩ := trodAll_cons r0
  obtain ⟨v2, vs2, d2, ds2, p2, q2, rfl, rfl, rfl, h2, r2⟩ := trodAll_cons r1
  obtain ⟨v3, vs3, d3, ds3, p3, q3, rfl, rfl, rfl, h3, r3⟩ := trodAll_cons r2
  obtain ⟨rfl, rfl, rfl⟩ := trodAll_nil r3
  obtain rfl : args = #[v0, v1, v2, v3] := by cases args; simp_all
  obtain ⟨rfl, rfl⟩ := trodVars_none hV
  obtain ⟨a0, rfl, rfl, rfl, w0⟩ := open_string Tryf.underlying9 (hval 0 9 v0 rfl rfl) h0
  obtain ⟨a1, len1, cap1, rfl⟩ := okWide_slice Tryf.underlying22 (hval 1 22 v1 rfl rfl)
  have k1 := h1
  have lt1 : ∀ x ∈ p1, x.block < W.heap.size := by obtain ⟨m, hm⟩ := k1; exact DataW.trod_lt m _ _ _ hm
  obtain ⟨z1, w1⟩ : ∃ zs, IsRow .u8 W a1 len1 cap1 zs := by
    obtain ⟨fuel, hf⟩ := h1
    rcases open_ints Tryf.underlying22 Tryf.underlying5 (by kernel_rfl) hf with ⟨hcs, _⟩ | ⟨x, l, c, zs, hcs, _, hl, hm, hz, _, hcell, hwz⟩
    · simp [Value.cells] at hcs
      obtain ⟨rfl, rfl, rfl⟩ := hcs
      exact ⟨[], .inl ⟨rfl, rfl, rfl, rfl⟩⟩
    · simp [Value.cells] at hcs
      obtain ⟨rfl, rfl, rfl⟩ := hcs
      exact ⟨zs, .inr ⟨_, rfl, hl, hm, by simpa using hz, hcell, hwz⟩⟩
  obtain ⟨a2, rfl, rfl, rfl, w2⟩ := open_int Tryf.underlying3 (hval 2 3 v2 rfl rfl) h2
  obtain ⟨a3, rfl, rfl, rfl, w3⟩ := open_int Tryf.underlying3 (hval 3 3 v3 rfl rfl) h3
  clear hA0 hval0
  refine (walk a0 a1 len1 cap1 z1 a2 a3 W w0 w1 w2 w3).mono fun e W' ⟨he, bel⟩ => ?_
  subst he
  exact ⟨_, rfl, _, _, _, [], _, [], hW', trodAll_mk1 (shut_bool Tryf.underlying4 _), (trodAll_cons_mk (shut_string Tryf.underlying9 w0) (trodAll_cons_mk (Below.trod laidOut (by kernel_rfl) (of_decide_eq_true (by kernel_rfl)) k1 bel lt1) (trodAll_cons_mk (shut_int Tryf.underlying3 w2) (trodAll_cons_mk (shut_int Tryf.underlying3 w3) trodAll_mk0)))), rfl, bel.frame _, fun h => by cases h⟩

/-- ████ THE STATEMENT ████ -/
theorem proved : Rows.FnFindLiteralAgreesWithNaiveScanToldSaid :=
  Claim7.holds_of_told_any 5 Tryf.f5 "fmt.Sprintf, its operands' methods called" [] [] (true, "34b94395d7252693a5ce94132afb07188437961119665ac3de06d967ac166f6d") true false (by kernel_rfl) rfl rfl rfl laidOut (by kernel_rfl) rfl ⟨rfl, rfl, rfl, rfl, rfl, rfl, rfl⟩ rfl rfl (by kernel_rfl) (by kernel_rfl) Tryf.func5 (by kernel_rfl)
    (of_decide_eq_true (by kernel_rfl)) (by unfold Func.isWrapper; first | (rw [if_pos (by decide +kernel)]; kernel_rfl) | (rw [if_neg (by decide +kernel)]; exact ⟨rfl, rfl⟩)) stops.symm rfl stopKnobs.symm (by kernel_rfl)
    (by kernel_rfl) (by kernel_rfl) (by kernel_rfl) (by kernel_rfl) (by kernel_rfl) (by kernel_rfl) (by kernel_rfl) (by kernel_rfl) (by kernel_rfl) rfl (by kernel_rfl) rfl rfl
    rfl rfl
    rfl (by kernel_rfl) (by kernel_rfl) (by kernel_rfl) (by decide) (by kernel_rfl)
    (OpenClaim.moreEntering_of (by kernel_rfl) (by kernel_rfl) (by kernel_rfl) (by kernel_rfl) (by kernel_rfl) (by kernel_rfl) (by kernel_rfl) (by kernel_rfl) (by kernel_rfl) (by kernel_rfl))
    ⟨_, WideRow.started_initial, quiet _⟩
    (fun os started _ H enc _ => lifted os started H enc)
#print axioms proved
end Go.Proofs.YtankjgbcpdodgaaFmt.fnFindLiteralAgreesWithNaiveScan
