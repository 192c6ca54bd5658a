/-
  The given statement on FnScannerPeekAgreesWithCursorModel: for every input the law returns true and leaves its arguments as they were. No condition beyond the statement's own.
  The frame was written by the kit's proof-skeleton.
-/
import Derived.Test.YtkkafhbdfflanaaHelp2
import Derived.Deep.RegionWith
import Derived.Test.YtkkafhbdfflanaaRows
import Derived.WalkKit
import Derived.ProofKit
import Derived.OpenShut
import Derived.ShutString
import Derived.ChangeOld
import Derived.Below
namespace Go.Proofs.Ytkkafhbdfflanaa.fnScannerPeekAgreesWithCursorModel
open Go.ChangeShapes Go.WideShapes Go.ChangeAt Go.RowKit
open Go.ChangeMaps (open_string shut_string)
set_option linter.unusedVariables false

theorem own : ownKnob Try.prog.godebug = none := by kernel_rfl
theorem laidOut : laidOutB Try.prog = true := by kernel_rfl

/-- WHAT THE WALK IS TOLD OF A SLICE OF INTEGERS THAT CAME IN: it is nil; or it leads to a row of 'cap' cells, the numbers 'zs' (the first 'len' are its elements, the rest its spare room), each fitting its kind. -/
def IsRow (k : IntKind) (w : World) (a : Option Addr) (len cap : Nat) (zs : List Int) : Prop :=
  (a = none ∧ len = 0 ∧ cap = 0 ∧ zs = []) ∨
  ∃ x, a = some x ∧ len ≤ cap ∧ cap ≤ maxLen ∧ zs.length = cap ∧ (∀ i, i < zs.length → w.cell? (x.add i) = some (.int k (zs.getD i 0))) ∧ ∀ n ∈ zs, (Lit.int k n).wf = true

/-- What 'IsRow' says, over the elements alone. -/
theorem isRow_told {k : IntKind} {w : World} {a : Option Addr} {len cap : Nat} {zs : List Int} (h : IsRow k w a len cap zs) :
    ∃ ys : List Int, ys.length = len ∧ RowInt k w a ys ∧ (a = none → ys.length = 0) ∧ len ≤ 9223372036854775807 ∧ (∀ n, n ∈ ys → (Lit.int k n).wf = true) := by
  rcases h with ⟨rfl, rfl, rfl, rfl⟩ | ⟨x, rfl, hl, hm, hz, hcell, hwz⟩
  · exact ⟨[], rfl, fun h0 => absurd h0 (Nat.lt_irrefl _), fun _ => rfl, by omega, fun n hn => by simp at hn⟩
  · refine ⟨zs.take len, by simp; omega, fun h0 => ?_, fun h0 => (by cases h0), by unfold maxLen at hm; omega, fun n hn => hwz n (List.mem_of_mem_take hn)⟩
    have h0' : 0 < len := by simp at h0; omega
    have hsp : x.spot = none := by simpa [Addr.add] using World.cell?_spot (hcell 0 (by omega))
    obtain ⟨b, off, spot⟩ := x
    simp only at hsp
    subst hsp
    refine ⟨b, off, rfl, fun i hi => ?_⟩
    have h1 := hcell i (by simp at hi; omega)
    rw [addr_add] at h1
    rw [h1]
    simp only [List.length_take] at hi
    rw [List.getD_eq_getElem?_getD, List.getD_eq_getElem?_getD, List.getElem?_take_of_lt (by omega)]

set_option maxHeartbeats 2000000

/-! ### STEP 1: THE WALK: the Go text returns true, AND WRITES NOTHING THAT WAS THERE: 'Below w.heap.size w w'' (Derived/Below.lean: '.refl', '.alloc', '.drew', '.setCell' at a new block, '.trans'). Open each 'IsRow' by 'rcases' AHEAD of 'go_enter'; part every test ahead of the walk. -/
theorem walk (a0 : Option Addr) (len0 cap0 : Nat) (z0 : List Int) (a1 : Option Addr) (len1 cap1 : Nat) (z1 : List Int) (w : World) (w0 : IsRow .u8 w a0 len0 cap0 z0) (w1 : IsRow .u8 w a1 len1 cap1 z1) :
    Calls Try.prog 5 #[.slice a0 len0 cap0, .slice a1 len1 cap1] w fun e w' => e = .returned (.bool true) ∧ Below w.heap.size w w' := by
  obtain ⟨ys, rfl, hrow, hnil, hlen, hwf⟩ := isRow_told w0
  obtain ⟨os, rfl, hrow', hnil', hlen', hwf'⟩ := isRow_told w1
  have HW := Lib.hid (fun z hz => u8_bd (hwf z hz) : ∀ z, z ∈ ys → 0 ≤ z ∧ z ≤ 255)
  have HW' := Lib.hid (fun z hz => u8_bd (hwf' z hz) : ∀ z, z ∈ os → 0 ≤ z ∧ z ≤ 255)
  have HR := Lib.hid hrow
  have HNI := Lib.hid hnil
  have HR' := Lib.hid hrow'
  have HNI' := Lib.hid hnil'
  clear w0 w1 hwf hwf' hrow hrow' hnil hnil'
  by_cases hb : ys.length ≤ 1048576 ∧ ys.length + os.length ≤ 1048576
  · have tb : decide (ys.length ≤ 1048576 ∧ ys.length + os.length ≤ 1048576) = true := decide_eq_true hb
    obtain ⟨hb1, hb2⟩ := hb
    rcases (show 524288 < ys.length ∨ (ys.length ≤ 524288 ∧ 524288 < os.length) ∨ (ys.length ≤ 524288 ∧ os.length ≤ 524288) by omega) with q | ⟨q, q'⟩ | ⟨q, q'⟩
    · skip
      go_enter Try.func5, Try.ntmps5
      go_wp2_with (go_at_call 10; refine (guard_any _ _ _ _ _ _ hlen hlen' _).mono ?_; rintro e w' ⟨rfl, rfl⟩)
      go_ret
      exact ⟨rfl, Below.refl _ _⟩
    · skip
      go_enter Try.func5, Try.ntmps5
      go_wp2_with (go_at_call 10; refine (guard_any _ _ _ _ _ _ hlen hlen' _).mono ?_; rintro e w' ⟨rfl, rfl⟩)
      go_ret
      exact ⟨rfl, Below.refl _ _⟩
    · skip
      go_enter Try.func5, Try.ntmps5
      go_wp2_with (go_at_call 10; refine (guard_any _ _ _ _ _ _ hlen hlen' _).mono ?_; rintro e w' ⟨rfl, rfl⟩)
      refine (copyB_any a0 cap0 ys _ HR.out HNI.out (by omega)).mono ?_
      rintro e w1 ⟨a', c', rfl, hn1, hf1, hr1, hb1⟩
      have HR1 := Lib.hid hr1
      have HB1 := Lib.hid hb1
      have HF1 := Lib.hid hf1
      have HRo := Lib.hid (HR'.out.below hb1 (Nat.le_refl _))
      clear hr1 hb1 hn1 hf1
      go_wp2_with fail
      refine (copyB_any a1 cap1 os _ HRo.out HNI'.out (by omega)).mono ?_
      rintro e w1b ⟨o', d', rfl, hn1, hf1, hr1, hb1⟩
      have HR1b := Lib.hid (HR1.out.below hb1 (Nat.le_refl _))
      have HO1 := Lib.hid hr1
      have HFO := Lib.hid hf1
      have HF1b := Lib.hid (show Fresh w.heap.size w1b a' from fun x hx => ⟨(HF1.out x hx).1, Nat.lt_of_lt_of_le (HF1.out x hx).2 hb1.size⟩)
      have HB1b := Lib.hid (HB1.out.trans (hb1.mono HB1.out.size))
      clear hr1 hb1 hn1 hf1
      go_wp2_with fail
      refine (zzNew_any a' c' ys w1b HR1b.out (by omega) HW.out).mono ?_
      rintro e w2 ⟨rfl, hs2, hb2⟩
      have HS2 := Lib.hid hs2
      have HB2 := Lib.hid hb2
      have HO2 := Lib.hid (HO1.out.below hb2 (Nat.le_refl _))
      clear hs2 hb2
      generalize hgg : w1b.heap.size = g at *
      have HGG := Lib.hid hgg
      clear hgg
      go_wp2_with fail
      rcases (show os.length = 0 ∨ 0 < os.length by omega) with ho | ho
      all_goals rcases (show ys.length = 0 ∨ 0 < ys.length by omega) with hy | hy
      · skip
        have HO := Lib.hid ho
        clear ho
        have HY := Lib.hid hy
        clear hy
        go_loopw [7, 8, 9] (fun i j _ wr => ∃ jj ii cc : Nat, jj ≤ os.length ∧ j = .int .i64 jj ∧ i = .int .i64 ii ∧ ii ≤ ys.length ∧ (ii < ys.length → cc = ii) ∧ (ii = ys.length → ys.length ≤ cc) ∧ Scan wr g a' c' ys cc 0 ∧ w2.grownBy wr (some g)) (fun _ j _ _ => os.length - (intOf j).toNat)
        case atStart => exact ⟨0, 0, 0, Nat.zero_le _, rfl, rfl, Nat.zero_le _, fun _ => rfl, fun h => Nat.le_of_eq h.symm, HS2.out, one_refl _ _⟩
        case round =>
          obtain ⟨jj, ii, cc, hjj, rfl, rfl, hii, hc1, hc2, hs, hg⟩ := hrel
          have HS := Lib.hid hs
          have HG := Lib.hid hg
          clear hs hg
          by_cases hlt : jj < os.length
          · skip
            exact absurd hlt (by have := HO.out; omega)
          · obtain rfl : jj = os.length := by omega
            have HC1 := Lib.hid hc1
            have HC2 := Lib.hid hc2
            clear hc1 hc2
            go_wp2_with fail
            obtain ⟨wo, rfl⟩ : ∃ wo : World, wo = wr := ⟨_, rfl⟩
            go_loopw [7] (fun i wr => ∃ ii cc : Nat, i = .int .i64 ii ∧ ii ≤ ys.length ∧ (ii < ys.length → cc = ii) ∧ (ii = ys.length → ys.length ≤ cc) ∧ Scan wr g a' c' ys cc 0 ∧ w2.grownBy wr (some g)) (fun i _ => ys.length - (intOf i).toNat)
            case atStart => exact ⟨ii, cc, rfl, hii, HC1.out, HC2.out, HS.out, HG.out⟩
            case round =>
              clear HS HG HC1 HC2
              obtain ⟨ii, cc, rfl, hii, hc1, hc2, hs, hg⟩ := hrel
              have HS := Lib.hid hs
              have HG := Lib.hid hg
              clear hs hg
              by_cases hi : ii < ys.length
              · skip
                exact absurd hi (by have := HY.out; omega)
              · have hcc : ys.length ≤ cc := hc2 (by omega)
                have HCH := Lib.hid (chr_out hcc)
                have HCH2 := Lib.hid (chr_out (zs := ys) (c := min (cc + 1) (ys.length + 1)) (by omega))
                clear hc1 hc2
                go_wp2_with fail
                refine (next_is HS.out HCH.out).mono ?_
                rintro e w3 ⟨rfl, hs3, hg3⟩
                have HS3 := Lib.hid hs3
                have HG3 := Lib.hid (one_trans HG.out hg3)
                clear hs3 hg3
                go_wp2_with fail
                refine (peek_is HS3.out HCH2.out).mono ?_
                rintro e w4 ⟨rfl, hs4, hg4⟩
                have HG4 := Lib.hid (one_trans HG3.out hg4)
                clear hs4 hg4
                go_wp2_with fail
                go_ret
                exact ⟨rfl, below_fin HB1b.out HB2.out HGG.out HG4.out⟩
      · skip
        have HO := Lib.hid ho
        clear ho
        obtain ⟨sb, so, rfl, hycell⟩ := (HR1b.out.below HB2.out (HGG.out ▸ Nat.le_refl _)) hy
        have hlty : sb < w1b.heap.size := (HF1b.out _ rfl).2
        have hgg := HGG.out
        have hyb : sb ≠ g := by omega
        have HYB := Lib.hid hyb
        have HYC := Lib.hid hycell
        clear hycell hlty hgg hyb
        go_loopw [7, 8, 9] (fun i j _ wr => ∃ jj ii cc : Nat, jj ≤ os.length ∧ j = .int .i64 jj ∧ i = .int .i64 ii ∧ ii ≤ ys.length ∧ (ii < ys.length → cc = ii) ∧ (ii = ys.length → ys.length ≤ cc) ∧ Scan wr g (some ⟨sb, so, none⟩) c' ys cc 0 ∧ w2.grownBy wr (some g)) (fun _ j _ _ => os.length - (intOf j).toNat)
        case atStart => exact ⟨0, 0, 0, Nat.zero_le _, rfl, rfl, Nat.zero_le _, fun _ => rfl, fun h => Nat.le_of_eq h.symm, HS2.out, one_refl _ _⟩
        case round =>
          obtain ⟨jj, ii, cc, hjj, rfl, rfl, hii, hc1, hc2, hs, hg⟩ := hrel
          have HS := Lib.hid hs
          have HG := Lib.hid hg
          clear hs hg
          by_cases hlt : jj < os.length
          · skip
            exact absurd hlt (by have := HO.out; omega)
          · obtain rfl : jj = os.length := by omega
            have HC1 := Lib.hid hc1
            have HC2 := Lib.hid hc2
            clear hc1 hc2
            go_wp2_with fail
            obtain ⟨wo, rfl⟩ : ∃ wo : World, wo = wr := ⟨_, rfl⟩
            go_loopw [7] (fun i wr => ∃ ii cc : Nat, i = .int .i64 ii ∧ ii ≤ ys.length ∧ (ii < ys.length → cc = ii) ∧ (ii = ys.length → ys.length ≤ cc) ∧ Scan wr g (some ⟨sb, so, none⟩) c' ys cc 0 ∧ w2.grownBy wr (some g)) (fun i _ => ys.length - (intOf i).toNat)
            case atStart => exact ⟨ii, cc, rfl, hii, HC1.out, HC2.out, HS.out, HG.out⟩
            case round =>
              clear HS HG HC1 HC2
              obtain ⟨ii, cc, rfl, hii, hc1, hc2, hs, hg⟩ := hrel
              have HS := Lib.hid hs
              have HG := Lib.hid hg
              clear hs hg
              by_cases hi : ii < ys.length
              · skip
                obtain rfl : cc = ii := hc1 hi
                obtain ⟨v, hv⟩ : ∃ v, v = ys.getD cc 0 := ⟨_, rfl⟩
                have hvb := getD_byte HW.out cc
                have hv0 := HYC.out cc hi
                have hch := chr_in hi
                rw [← hv] at hvb hv0 hch
                have hv1 := hvb.1
                have hv2 := hvb.2
                have hy1 := cell_one HG.out hv0 HYB.out
                have HY1 := Lib.hid hy1
                have HCH := Lib.hid hch
                clear hvb hv hv0 hch hc1 hc2
                go_wp2_with fail
                have hwv : IntKind.i64.wrap v = v := IntWalk.i64_in _ (by omega)
                go_region_with (go_at_call 14; refine (next_is HS.out.drew HCH.out).mono ?_; rintro e w1' ⟨rfl, hs1, hg1⟩; have hy2 : w1'.cell? ⟨sb, so + cc, none⟩ = some (.int .u8 v) := cell_one hg1 HY1.out HYB.out)
                all_goals
                  go_wp2_with fail
                  go_roundw
                  case rel => exact ⟨cc + 1, _, by go_num, by omega, fun _ => by omega, fun h => by omega, hs1, one_trans HG.out (one_trans (one_drew (one_refl _ _)) hg1)⟩
                  case measure => simp [intOf]; omega
              · have hcc : ys.length ≤ cc := hc2 (by omega)
                have HCH := Lib.hid (chr_out hcc)
                have HCH2 := Lib.hid (chr_out (zs := ys) (c := min (cc + 1) (ys.length + 1)) (by omega))
                clear hc1 hc2
                go_wp2_with fail
                refine (next_is HS.out HCH.out).mono ?_
                rintro e w3 ⟨rfl, hs3, hg3⟩
                have HS3 := Lib.hid hs3
                have HG3 := Lib.hid (one_trans HG.out hg3)
                clear hs3 hg3
                go_wp2_with fail
                refine (peek_is HS3.out HCH2.out).mono ?_
                rintro e w4 ⟨rfl, hs4, hg4⟩
                have HG4 := Lib.hid (one_trans HG3.out hg4)
                clear hs4 hg4
                go_wp2_with fail
                go_ret
                exact ⟨rfl, below_fin HB1b.out HB2.out HGG.out HG4.out⟩
      · skip
        obtain ⟨ob, oo, rfl, hocell⟩ := HO2.out ho
        have hlto : ob < w1b.heap.size := (HFO.out _ rfl).2
        have hgg := HGG.out
        have hob : ob ≠ g := by omega
        have HOB := Lib.hid hob
        have HOC := Lib.hid hocell
        clear hocell hlto hgg hob
        have HY := Lib.hid hy
        clear hy
        go_loopw [7, 8, 9] (fun i j _ wr => ∃ jj ii cc : Nat, jj ≤ os.length ∧ j = .int .i64 jj ∧ i = .int .i64 ii ∧ ii ≤ ys.length ∧ (ii < ys.length → cc = ii) ∧ (ii = ys.length → ys.length ≤ cc) ∧ Scan wr g a' c' ys cc 0 ∧ w2.grownBy wr (some g)) (fun _ j _ _ => os.length - (intOf j).toNat)
        case atStart => exact ⟨0, 0, 0, Nat.zero_le _, rfl, rfl, Nat.zero_le _, fun _ => rfl, fun h => Nat.le_of_eq h.symm, HS2.out, one_refl _ _⟩
        case round =>
          obtain ⟨jj, ii, cc, hjj, rfl, rfl, hii, hc1, hc2, hs, hg⟩ := hrel
          have HS := Lib.hid hs
          have HG := Lib.hid hg
          clear hs hg
          by_cases hlt : jj < os.length
          · skip
            obtain ⟨z, hz⟩ : ∃ z, z = os.getD jj 0 := ⟨_, rfl⟩
            have hzb := getD_byte HW'.out jj
            have hc0 := HOC.out jj hlt
            rw [← hz] at hzb hc0
            have hz1 := hzb.1
            have hz2 := hzb.2
            have ho1 := cell_one HG.out hc0 HOB.out
            clear hzb hz hc0
            by_cases hi : ii < ys.length
            · skip
              exact absurd hi (by have := HY.out; omega)
            · have hcc : ys.length ≤ cc := hc2 (by omega)
              have HCH := Lib.hid (chr_out hcc)
              have hpk : ys.length ≤ peekC ys.length cc := by unfold peekC; split <;> omega
              have HPK := Lib.hid hpk
              clear hpk hc1 hc2
              go_wp2_with (first | (go_at_call 14; refine (next_is HS.out HCH.out).mono ?_; rintro e w1' ⟨rfl, hs1, hg1⟩) | (go_at_call 13; refine (peek_is HS.out HCH.out).mono ?_; rintro e w1' ⟨rfl, hs1, hg1⟩))
              · go_roundw
                case rel => exact ⟨jj + 1, ii, _, by omega, by go_num, rfl, by omega, fun _ => by omega, fun h => HPK.out, hs1, one_trans HG.out hg1⟩
                case measure => simp [intOf]; omega
              · go_roundw
                case rel => exact ⟨jj + 1, ii, _, by omega, by go_num, rfl, by omega, fun _ => by omega, fun h => by omega, hs1, one_trans HG.out hg1⟩
                case measure => simp [intOf]; omega
          · obtain rfl : jj = os.length := by omega
            have HC1 := Lib.hid hc1
            have HC2 := Lib.hid hc2
            clear hc1 hc2
            go_wp2_with fail
            obtain ⟨wo, rfl⟩ : ∃ wo : World, wo = wr := ⟨_, rfl⟩
            go_loopw [7] (fun i wr => ∃ ii cc : Nat, i = .int .i64 ii ∧ ii ≤ ys.length ∧ (ii < ys.length → cc = ii) ∧ (ii = ys.length → ys.length ≤ cc) ∧ Scan wr g a' c' ys cc 0 ∧ w2.grownBy wr (some g)) (fun i _ => ys.length - (intOf i).toNat)
            case atStart => exact ⟨ii, cc, rfl, hii, HC1.out, HC2.out, HS.out, HG.out⟩
            case round =>
              clear HS HG HC1 HC2
              obtain ⟨ii, cc, rfl, hii, hc1, hc2, hs, hg⟩ := hrel
              have HS := Lib.hid hs
              have HG := Lib.hid hg
              clear hs hg
              by_cases hi : ii < ys.length
              · skip
                exact absurd hi (by have := HY.out; omega)
              · have hcc : ys.length ≤ cc := hc2 (by omega)
                have HCH := Lib.hid (chr_out hcc)
                have HCH2 := Lib.hid (chr_out (zs := ys) (c := min (cc + 1) (ys.length + 1)) (by omega))
                clear hc1 hc2
                go_wp2_with fail
                refine (next_is HS.out HCH.out).mono ?_
                rintro e w3 ⟨rfl, hs3, hg3⟩
                have HS3 := Lib.hid hs3
                have HG3 := Lib.hid (one_trans HG.out hg3)
                clear hs3 hg3
                go_wp2_with fail
                refine (peek_is HS3.out HCH2.out).mono ?_
                rintro e w4 ⟨rfl, hs4, hg4⟩
                have HG4 := Lib.hid (one_trans HG3.out hg4)
                clear hs4 hg4
                go_wp2_with fail
                go_ret
                exact ⟨rfl, below_fin HB1b.out HB2.out HGG.out HG4.out⟩
      · skip
        obtain ⟨ob, oo, rfl, hocell⟩ := HO2.out ho
        have hlto : ob < w1b.heap.size := (HFO.out _ rfl).2
        have hgg := HGG.out
        have hob : ob ≠ g := by omega
        have HOB := Lib.hid hob
        have HOC := Lib.hid hocell
        clear hocell hlto hgg hob
        obtain ⟨sb, so, rfl, hycell⟩ := (HR1b.out.below HB2.out (HGG.out ▸ Nat.le_refl _)) hy
        have hlty : sb < w1b.heap.size := (HF1b.out _ rfl).2
        have hgg := HGG.out
        have hyb : sb ≠ g := by omega
        have HYB := Lib.hid hyb
        have HYC := Lib.hid hycell
        clear hycell hlty hgg hyb
        go_loopw [7, 8, 9] (fun i j _ wr => ∃ jj ii cc : Nat, jj ≤ os.length ∧ j = .int .i64 jj ∧ i = .int .i64 ii ∧ ii ≤ ys.length ∧ (ii < ys.length → cc = ii) ∧ (ii = ys.length → ys.length ≤ cc) ∧ Scan wr g (some ⟨sb, so, none⟩) c' ys cc 0 ∧ w2.grownBy wr (some g)) (fun _ j _ _ => os.length - (intOf j).toNat)
        case atStart => exact ⟨0, 0, 0, Nat.zero_le _, rfl, rfl, Nat.zero_le _, fun _ => rfl, fun h => Nat.le_of_eq h.symm, HS2.out, one_refl _ _⟩
        case round =>
          obtain ⟨jj, ii, cc, hjj, rfl, rfl, hii, hc1, hc2, hs, hg⟩ := hrel
          have HS := Lib.hid hs
          have HG := Lib.hid hg
          clear hs hg
          by_cases hlt : jj < os.length
          · skip
            obtain ⟨z, hz⟩ : ∃ z, z = os.getD jj 0 := ⟨_, rfl⟩
            have hzb := getD_byte HW'.out jj
            have hc0 := HOC.out jj hlt
            rw [← hz] at hzb hc0
            have hz1 := hzb.1
            have hz2 := hzb.2
            have ho1 := cell_one HG.out hc0 HOB.out
            clear hzb hz hc0
            by_cases hi : ii < ys.length
            · skip
              obtain rfl : cc = ii := hc1 hi
              obtain ⟨v, hv⟩ : ∃ v, v = ys.getD cc 0 := ⟨_, rfl⟩
              have hvb := getD_byte HW.out cc
              have hv0 := HYC.out cc hi
              have hch := chr_in hi
              rw [← hv] at hvb hv0 hch
              have hv1 := hvb.1
              have hv2 := hvb.2
              have hy1 := cell_one HG.out hv0 HYB.out
              have HCH := Lib.hid hch
              clear hvb hv hv0 hch hc1 hc2
              have hpk : peekC ys.length cc = cc := by unfold peekC; rw [if_neg (by omega)]
              have HPK := Lib.hid hpk
              clear hpk
              go_wp2_with (first | (go_at_call 14; refine (next_is HS.out HCH.out).mono ?_; rintro e w1' ⟨rfl, hs1, hg1⟩) | (go_at_call 13; refine (peek_is HS.out HCH.out).mono ?_; rintro e w1' ⟨rfl, hs1, hg1⟩; rw [HPK.out] at hs1))
              · go_roundw
                case rel => exact ⟨jj + 1, cc, cc, by omega, by go_num, rfl, by omega, fun _ => rfl, fun h => by omega, hs1, one_trans HG.out hg1⟩
                case measure => simp [intOf]; omega
              · go_roundw
                case rel => exact ⟨jj + 1, cc + 1, _, by omega, by go_num, by go_num, by omega, fun _ => by omega, fun h => by omega, hs1, one_trans HG.out hg1⟩
                case measure => simp [intOf]; omega
            · have hcc : ys.length ≤ cc := hc2 (by omega)
              have HCH := Lib.hid (chr_out hcc)
              have hpk : ys.length ≤ peekC ys.length cc := by unfold peekC; split <;> omega
              have HPK := Lib.hid hpk
              clear hpk hc1 hc2
              go_wp2_with (first | (go_at_call 14; refine (next_is HS.out HCH.out).mono ?_; rintro e w1' ⟨rfl, hs1, hg1⟩) | (go_at_call 13; refine (peek_is HS.out HCH.out).mono ?_; rintro e w1' ⟨rfl, hs1, hg1⟩))
              · go_roundw
                case rel => exact ⟨jj + 1, ii, _, by omega, by go_num, rfl, by omega, fun _ => by omega, fun h => HPK.out, hs1, one_trans HG.out hg1⟩
                case measure => simp [intOf]; omega
              · go_roundw
                case rel => exact ⟨jj + 1, ii, _, by omega, by go_num, rfl, by omega, fun _ => by omega, fun h => by omega, hs1, one_trans HG.out hg1⟩
                case measure => simp [intOf]; omega
          · obtain rfl : jj = os.length := by omega
            have HC1 := Lib.hid hc1
            have HC2 := Lib.hid hc2
            clear hc1 hc2
            go_wp2_with fail
            obtain ⟨wo, rfl⟩ : ∃ wo : World, wo = wr := ⟨_, rfl⟩
            go_loopw [7] (fun i wr => ∃ ii cc : Nat, i = .int .i64 ii ∧ ii ≤ ys.length ∧ (ii < ys.length → cc = ii) ∧ (ii = ys.length → ys.length ≤ cc) ∧ Scan wr g (some ⟨sb, so, none⟩) c' ys cc 0 ∧ w2.grownBy wr (some g)) (fun i _ => ys.length - (intOf i).toNat)
            case atStart => exact ⟨ii, cc, rfl, hii, HC1.out, HC2.out, HS.out, HG.out⟩
            case round =>
              clear HS HG HC1 HC2
              obtain ⟨ii, cc, rfl, hii, hc1, hc2, hs, hg⟩ := hrel
              have HS := Lib.hid hs
              have HG := Lib.hid hg
              clear hs hg
              by_cases hi : ii < ys.length
              · skip
                obtain rfl : cc = ii := hc1 hi
                obtain ⟨v, hv⟩ : ∃ v, v = ys.getD cc 0 := ⟨_, rfl⟩
                have hvb := getD_byte HW.out cc
                have hv0 := HYC.out cc hi
                have hch := chr_in hi
                rw [← hv] at hvb hv0 hch
                have hv1 := hvb.1
                have hv2 := hvb.2
                have hy1 := cell_one HG.out hv0 HYB.out
                have HY1 := Lib.hid hy1
                have HCH := Lib.hid hch
                clear hvb hv hv0 hch hc1 hc2
                go_wp2_with fail
                have hwv : IntKind.i64.wrap v = v := IntWalk.i64_in _ (by omega)
                go_region_with (go_at_call 14; refine (next_is HS.out.drew HCH.out).mono ?_; rintro e w1' ⟨rfl, hs1, hg1⟩; have hy2 : w1'.cell? ⟨sb, so + cc, none⟩ = some (.int .u8 v) := cell_one hg1 HY1.out HYB.out)
                all_goals
                  go_wp2_with fail
                  go_roundw
                  case rel => exact ⟨cc + 1, _, by go_num, by omega, fun _ => by omega, fun h => by omega, hs1, one_trans HG.out (one_trans (one_drew (one_refl _ _)) hg1)⟩
                  case measure => simp [intOf]; omega
              · have hcc : ys.length ≤ cc := hc2 (by omega)
                have HCH := Lib.hid (chr_out hcc)
                have HCH2 := Lib.hid (chr_out (zs := ys) (c := min (cc + 1) (ys.length + 1)) (by omega))
                clear hc1 hc2
                go_wp2_with fail
                refine (next_is HS.out HCH.out).mono ?_
                rintro e w3 ⟨rfl, hs3, hg3⟩
                have HS3 := Lib.hid hs3
                have HG3 := Lib.hid (one_trans HG.out hg3)
                clear hs3 hg3
                go_wp2_with fail
                refine (peek_is HS3.out HCH2.out).mono ?_
                rintro e w4 ⟨rfl, hs4, hg4⟩
                have HG4 := Lib.hid (one_trans HG3.out hg4)
                clear hs4 hg4
                go_wp2_with fail
                go_ret
                exact ⟨rfl, below_fin HB1b.out HB2.out HGG.out HG4.out⟩
  · have tb : decide (ys.length ≤ 1048576 ∧ ys.length + os.length ≤ 1048576) = false := decide_eq_false hb
    go_enter Try.func5, Try.ntmps5
    go_wp2_with (go_at_call 10; refine (guard_any _ _ _ _ _ _ hlen hlen' _).mono ?_; rintro e w' ⟨rfl, rfl⟩)
    go_ret
    exact ⟨rfl, Below.refl _ _⟩

/-! ### THE ROW's STEP: WRITTEN OUT: LEAVE IT -/
set_option maxRecDepth 100000 in
theorem lifted (os : Os) (started : os.Started) (H : Type) (enc : TypeId × Value → H) :
    ReturnsInHanded {} Try.checked os 5 .any (Rows.fnScannerPeekAgreesWithCursorModelSpec.pre6 enc Try.prog Try.f5 Rows.fnScannerPeekAgreesWithCursorModelRow.domain false) (Rows.fnScannerPeekAgreesWithCursorModelSpec.post enc Try.prog Try.f5 false true false false) := by
  refine returnsInHanded_of_change (C := Try.checked) own started (by kernel_rfl) Try.func5
    (ChangeSpec.witness6 (enc := enc) (C := Try.checked) false ⟨#[], #[.slice none 0 0, .slice none 0 0], []⟩ 8 (by kernel_rfl) (by kernel_rfl) (by kernel_rfl) (by kernel_rfl)) ?_
  intro W base args ds gs before hval0 hW hcnd _
  have hval : ∀ (j : Nat) t v, Try.f5.params[j]? = some t → args[j]? = some v → Value.okWide Try.prog W .any base t v := hval0
  have hW' := hW
  obtain ⟨p, q, hA0, hV, rfl, hfz, hnd⟩ := hW
  have hA : DataW.TrodAll enc Try.prog W 0 (fun _ => true) true Try.f5.params.toList args.toList ds p := hA0
  rw [Try.params5] at hA hval
  obtain ⟨v0, vs0, d0, ds0, p0, q0, hargs, rfl, rfl, h0, r0⟩ := trodAll_cons hA
  obtain ⟨v1, vs1, d1, ds1, p1, q1, rfl, rfl, rfl, h1, r1⟩ := trodAll_cons r0
  obtain ⟨rfl, rfl, rfl⟩ := trodAll_nil r1
  obtain rfl : args = #[v0, v1] := by cases args; simp_all
  obtain ⟨rfl, rfl⟩ := trodVars_none hV
  obtain ⟨a0, len0, cap0, rfl⟩ := okWide_slice Try.underlying25 (hval 0 25 v0 rfl rfl)
  have k0 := h0
  have lt0 : ∀ x ∈ p0, x.block < W.heap.size := by obtain ⟨m, hm⟩ := k0; exact DataW.trod_lt m _ _ _ hm
  obtain ⟨z0, w0⟩ : ∃ zs, IsRow .u8 W a0 len0 cap0 zs := by
    obtain ⟨fuel, hf⟩ := h0
    rcases open_ints Try.underlying25 Try.underlying5 (by kernel_rfl) hf with ⟨hcs, _⟩ | ⟨x, l, c, zs, hcs, _, hl, hm, hz, _, hcell, hwz⟩
    · simp [Value.cells] at hcs
      obtain ⟨rfl, rfl, rfl⟩ := hcs
      exact ⟨[], .inl ⟨rfl, rfl, rfl, rfl⟩⟩
    · simp [Value.cells] at hcs
      obtain ⟨rfl, rfl, rfl⟩ := hcs
      exact ⟨zs, .inr ⟨_, rfl, hl, hm, by simpa using hz, hcell, hwz⟩⟩
  obtain ⟨a1, len1, cap1, rfl⟩ := okWide_slice Try.underlying25 (hval 1 25 v1 rfl rfl)
  have k1 := h1
  have lt1 : ∀ x ∈ p1, x.block < W.heap.size := by obtain ⟨m, hm⟩ := k1; exact DataW.trod_lt m _ _ _ hm
  obtain ⟨z1, w1⟩ : ∃ zs, IsRow .u8 W a1 len1 cap1 zs := by
    obtain ⟨fuel, hf⟩ := h1
    rcases open_ints Try.underlying25 Try.underlying5 (by kernel_rfl) hf with ⟨hcs, _⟩ | ⟨x, l, c, zs, hcs, _, hl, hm, hz, _, hcell, hwz⟩
    · simp [Value.cells] at hcs
      obtain ⟨rfl, rfl, rfl⟩ := hcs
      exact ⟨[], .inl ⟨rfl, rfl, rfl, rfl⟩⟩
    · simp [Value.cells] at hcs
      obtain ⟨rfl, rfl, rfl⟩ := hcs
      exact ⟨zs, .inr ⟨_, rfl, hl, hm, by simpa using hz, hcell, hwz⟩⟩
  clear hA0 hval0
  refine (walk a0 len0 cap0 z0 a1 len1 cap1 z1 W w0 w1).mono fun e W' ⟨he, bel⟩ => ?_
  subst he
  exact ⟨_, rfl, _, _, _, [], _, [], hW', trodAll_mk1 (shut_bool Try.underlying4 _), (trodAll_cons_mk (Below.trod laidOut (by kernel_rfl) (of_decide_eq_true (by kernel_rfl)) k0 bel lt0) (trodAll_cons_mk (Below.trod laidOut (by kernel_rfl) (of_decide_eq_true (by kernel_rfl)) k1 bel lt1) trodAll_mk0)), rfl, bel.frame _, fun h => by cases h⟩

theorem over : Rows.fnScannerPeekAgreesWithCursorModelRow.holds Try.pinned (OpenSpec.ofChange Rows.fnScannerPeekAgreesWithCursorModelSpec) :=
  OpenClaim.holds_of_wide 5 Try.f5 rfl rfl rfl rfl rfl rfl rfl ⟨rfl, rfl, rfl, rfl, rfl⟩ rfl rfl rfl rfl rfl (by kernel_rfl) Try.func5 (by kernel_rfl)
    (of_decide_eq_true (by kernel_rfl)) (by unfold Func.isWrapper; first | (rw [if_pos (by decide +kernel)]; kernel_rfl) | (rw [if_neg (by decide +kernel)]; exact ⟨rfl, rfl⟩))
    (fun os started H enc _ => lifted os started H enc)

/-- ████ THE STATEMENT ████ -/
theorem proved : Rows.FnScannerPeekAgreesWithCursorModelSaid := over
#print axioms proved
end Go.Proofs.Ytkkafhbdfflanaa.fnScannerPeekAgreesWithCursorModel
