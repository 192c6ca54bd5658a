/-
  The given statement on FnFindDigitRunsAreMaximal: for every input the law returns true and leaves its arguments as they were. No condition beyond the statement's own; no text of fmt is come to.
-/
import Derived.Test.YtankjgbcpdodgaaFmtDigWalk
import Derived.Laws.IdiomStrings
import Derived.BigGuardPart
import Derived.Test.YtankjgbcpdodgaaFmtRows
import Derived.Test.YtankjgbcpdodgaaFmtCards
import Derived.WalkKit
import Derived.ProofKit
import Derived.OpenShut
import Derived.ShutString
import Derived.ChangeOld
import Derived.Below
import Derived.Stop.JoinedAt
import Derived.Stop.JoinedTold
import Derived.SevenToldRow
namespace Go.Proofs.YtankjgbcpdodgaaFmt.fnFindDigitRunsAreMaximal
open Go.ChangeShapes Go.WideShapes Go.ChangeAt Go.RowKit
open Go.ChangeMaps (open_string shut_string)
open Go.Extern.Stop Go.Stop Go.Extern
set_option linter.unusedVariables false
set_option linter.unusedSimpArgs false

theorem own : ownKnob Tryf.prog.godebug = none := by kernel_rfl
theorem laidOut : laidOutB Tryf.prog = true := by kernel_rfl
theorem stops : Tryf.pinned.checked.prog.stops = ["fmt.Sprintf, its operands' methods called"] := by kernel_rfl
theorem stopKnobs : Tryf.pinned.checked.prog.stopKnobs = [] := by kernel_rfl
theorem quiet (os : Os) : Stop.quiet Tryf.pinned.checked.prog os := by
  intro k hk
  rw [stopKnobs] at hk
  cases hk

/-- What the walk is told of a slice of integers that came in. -/
def IsRow (k : IntKind) (w : World) (a : Option Addr) (len cap : Nat) (zs : List Int) : Prop :=
  (a = none ∧ len = 0 ∧ cap = 0 ∧ zs = []) ∨
  ∃ x, a = some x ∧ len ≤ cap ∧ cap ≤ maxLen ∧ zs.length = cap ∧ (∀ i, i < zs.length → w.cell? (x.add i) = some (.int k (zs.getD i 0))) ∧ ∀ n ∈ zs, (Lit.int k n).wf = true

/-- What 'IsRow' says, over the elements alone. -/
theorem isRow_told {k : IntKind} {w : World} {a : Option Addr} {len cap : Nat} {zs : List Int} (h : IsRow k w a len cap zs) :
    ∃ ys : List Int, ys.length = len ∧ RowInt k w a ys ∧ (a = none → ys.length = 0) ∧ len ≤ 9223372036854775807 ∧ (∀ n, n ∈ ys → (Lit.int k n).wf = true) := by
  rcases h with ⟨rfl, rfl, rfl, rfl⟩ | ⟨x, rfl, hl, hm, hz, hcell, hwz⟩
  · exact ⟨[], rfl, fun h0 => absurd h0 (Nat.lt_irrefl _), fun _ => rfl, by omega, fun n hn => by simp at hn⟩
  · refine ⟨zs.take len, by simp; omega, fun h0 => ?_, fun h0 => (by cases h0), by unfold maxLen at hm; omega, fun n hn => hwz n (List.mem_of_mem_take hn)⟩
    have h0' : 0 < len := by simp at h0; omega
    have hsp : x.spot = none := by simpa [Addr.add] using World.cell?_spot (hcell 0 (by omega))
    obtain ⟨b, off, spot⟩ := x
    simp only at hsp
    subst hsp
    refine ⟨b, off, rfl, fun i hi => ?_⟩
    have h1 := hcell i (by simp at hi; omega)
    rw [addr_add] at h1
    rw [h1]
    simp only [List.length_take] at hi
    rw [List.getD_eq_getElem?_getD, List.getD_eq_getElem?_getD, List.getElem?_take_of_lt (by omega)]

set_option maxHeartbeats 4000000
set_option maxRecDepth 100000

/-! ### THE WALK -/
theorem walk (a0 : Option Addr) (len0 cap0 : Nat) (z0 : List Int) (a1 : Int) (a2 : Int) (w : World) (w0 : IsRow .u8 w a0 len0 cap0 z0) (w1 : (Lit.int .i64 a1).wf = true) (w2 : (Lit.int .i64 a2).wf = true) :
    Calls Tryf.prog 6 #[.slice a0 len0 cap0, .int .i64 a1, .int .i64 a2] w fun e w' => e = .returned (.bool true) ∧ Below w.heap.size w w' := by
  obtain ⟨ys, rfl, hrow, hnil, hmx, hwf⟩ := isRow_told w0
  have hby : ∀ z, z ∈ ys → 0 ≤ z ∧ z ≤ 255 := fun z hz => bounds_u8 (hwf z hz)
  have b1 := bounds_i64 w1
  clear hwf w0
  have HBY := Lib.hid hby
  have HROW := Lib.hid hrow
  have HNIL := Lib.hid hnil
  clear hby hrow hnil
  rcases (show 1048576 < ys.length ∨ (ys.length ≤ 1048576 ∧ 65536 < ys.length) ∨ ys.length ≤ 65536 by omega) with q | ⟨q, q'⟩ | q'
  · have tb : decide (ys.length ≤ 1048576) = false := decide_eq_false (by omega)
    go_enter Tryf.func6, Tryf.ntmps6
    go_wp2_with (go_at_call 21; refine (guardD_any _ _ _ _ _ (by omega) _).mono ?_; rintro e w' ⟨rfl, rfl⟩)
    go_ret
    exact ⟨rfl, Below.refl _ _⟩
  · have tb : decide (ys.length ≤ 1048576) = true := decide_eq_true (by omega)
    go_enter Tryf.func6, Tryf.ntmps6
    go_wp2_with (go_at_call 21; refine (guardD_any _ _ _ _ _ (by omega) _).mono ?_; rintro e w' ⟨rfl, rfl⟩)
    go_ret
    exact ⟨rfl, Below.refl _ _⟩
  · have tb : decide (ys.length ≤ 1048576) = true := decide_eq_true (by omega)
    rcases (show a1 < 0 ∨ 0 ≤ a1 by omega) with p | p
    · go_enter Tryf.func6, Tryf.ntmps6
      go_wp2_with (go_at_call 21; refine (guardD_any _ _ _ _ _ (by omega) _).mono ?_; rintro e w' ⟨rfl, rfl⟩)
      go_ret
      exact ⟨rfl, Below.refl _ _⟩
    · obtain ⟨off, rfl⟩ : ∃ off : Nat, a1 = (off : Int) := ⟨a1.toNat, by omega⟩
      have hoff : off ≤ 9223372036854775807 := by omega
      clear b1 p w1
      obtain ⟨S, hS⟩ : ∃ S, digRuns ys off = S := ⟨_, rfl⟩
      have hSb : ∀ k, k < S.length → (S.getD k (0, 0)).1 ≤ 65536 ∧ (S.getD k (0, 0)).2 ≤ 65536 := fun k hk => by
        have := (runs_ge ys _ off (Nat.le_refl _) (S.getD k (0, 0)) (by rw [hS, List.getD_eq_getElem?_getD, List.getElem?_eq_getElem hk]; exact List.getElem_mem hk)).2
        omega
      have hSl : S.length ≤ 65537 := by rw [← hS]; exact runs_len ys off q'
      obtain ⟨fb, r, hfb, hcase⟩ := dig_first hS
      obtain ⟨n, hn⟩ : ∃ n, kept S.length fb a2 = n := ⟨_, rfl⟩
      have hnS : n ≤ S.length := by rw [← hn]; exact kept_le _ _ _
      have HS := Lib.hid hS
      have HSB := Lib.hid hSb
      have HFB := Lib.hid hfb
      have HN := Lib.hid hn
      have HCASE := Lib.hid hcase
      clear hS hSb hfb hn hcase
      obtain ⟨i0, hi, hz0, hz1, hz2⟩ := info_parts int_info
      go_enter Tryf.func6, Tryf.ntmps6
      go_wp2_with (go_at_call 21; refine (guardD_any _ _ _ _ _ (by omega) _).mono ?_; rintro e w' ⟨rfl, rfl⟩)
      refine (cpB_any a0 cap0 ys w HROW.out HNIL.out (by omega)).mono ?_
      rintro e w1 ⟨a', c', rfl, hn', hf', hr', hb1⟩
      have HF := Lib.hid hf'
      have HR1 := Lib.hid hr'
      have HB1 := Lib.hid hb1
      clear hn' hf' hr' hb1
      go_wp2_with fail
      go_loopw [7, 8, 9] (fun v7 v8 v9 wr => DRel w1 ys S v7 v8 v9 wr) (fun _ _ v9 _ => ys.length - (intOf v9).toNat)
      case atStart => rw [← HS.out]; exact drel_start w1 ys off hoff
      case round =>
        obtain ⟨i, ls, g, c, g2, c2, rfl, rfl, rfl, ho1, ho2, hne, hb, hE, hls, hiB⟩ := hrel
        have HO1 := Lib.hid ho1
        have HO2 := Lib.hid ho2
        have HB := Lib.hid hb
        have HE := Lib.hid hE
        have HNE := Lib.hid hne
        clear ho1 ho2 hb hE hne
        by_cases hlt : i < ys.length
        · obtain ⟨sb, so, rfl, hcs⟩ := HR1.out (by omega)
          have hci := (HB.out.cell (p := ⟨sb, so + i, none⟩) (lt_of_cell (hcs i hlt))).trans (hcs i hlt)
          obtain ⟨z, hz⟩ : ∃ z, ys.getD i 0 = z := ⟨_, rfl⟩
          have hdr := dgAt_row hlt
          rw [hz] at hci hdr
          have h5 : (i : Int) < (ys.length : Int) := by omega
          have HCS := Lib.hid hcs
          clear hz hcs
          cases hd : dgAt ys i with
          | false =>
            have HD := Lib.hid hd
            have HV : Hid (dgB z = false) := Lib.hid (by rw [← hdr, hd])
            clear hd hdr
            go_wp2_with (go_at_call 22; refine (dig_is HV _).mono ?_; rintro e w' ⟨rfl, rfl⟩)
            go_roundw
            case rel => exact drel_no hlt HD.out HO1.out HO2.out HNE.out HB.out HE.out hls (by omega)
            case measure => simp [intOf]; omega
          | true =>
            have HD := Lib.hid hd
            have HV : Hid (dgB z = true) := Lib.hid (by rw [← hdr, hd])
            have HJ0 := Lib.hid (runEnd_yes hd)
            clear hd hdr
            obtain ⟨wo, hwo⟩ : ∃ wo : World, wo = wr := ⟨_, rfl⟩
            subst hwo
            go_wp2_with (go_at_call 22; refine (dig_is HV _).mono ?_; rintro e w' ⟨rfl, rfl⟩)
            go_loop [10] (fun v10 => ∃ j : Nat, i < j ∧ j ≤ ys.length ∧ v10 = .int .i64 j ∧ Hid (runEnd ys i = runEnd ys j)) (fun v10 => ys.length - (intOf v10).toNat)
            case atStart => exact ⟨i + 1, by omega, by omega, by go_num, HJ0⟩
            case round =>
              obtain ⟨j, hij, hjl, rfl, HJ⟩ := hrel
              rcases (show (j < ys.length ∧ dgAt ys j = true) ∨ (j < ys.length ∧ dgAt ys j = false) ∨ (¬ j < ys.length ∧ dgAt ys j = false) by
                by_cases h : j < ys.length
                · cases hh : dgAt ys j with
                  | true => exact .inl ⟨h, rfl⟩
                  | false => exact .inr (.inl ⟨h, rfl⟩)
                · exact .inr (.inr ⟨h, by simp [dgAt, h]⟩)) with ⟨hl2, hdj⟩ | ⟨hl2, hdj⟩ | ⟨hl2, hdj⟩
              · have hcj := (HB.out.cell (p := ⟨sb, so + j, none⟩) (lt_of_cell (HCS.out j hl2))).trans (HCS.out j hl2)
                obtain ⟨zj, hzj⟩ : ∃ z, ys.getD j 0 = z := ⟨_, rfl⟩
                have hdrj := dgAt_row hl2
                rw [hzj] at hcj hdrj
                have h6 : (j : Int) < (ys.length : Int) := by omega
                have HVJ : Hid (dgB zj = true) := Lib.hid (by rw [← hdrj, hdj])
                have HJ2 : Hid (runEnd ys i = runEnd ys (j + 1)) := Lib.hid (by rw [HJ.out, runEnd_yes hdj])
                clear hzj hdrj hdj
                go_wp2_with (go_at_call 22; refine (dig_is HVJ _).mono ?_; rintro e w' ⟨rfl, rfl⟩)
                go_round
                case rel => exact ⟨j + 1, by omega, by omega, by go_num, HJ2⟩
                case measure => simp [intOf]; omega
              · have hcj := (HB.out.cell (p := ⟨sb, so + j, none⟩) (lt_of_cell (HCS.out j hl2))).trans (HCS.out j hl2)
                obtain ⟨zj, hzj⟩ : ∃ z, ys.getD j 0 = z := ⟨_, rfl⟩
                have hdrj := dgAt_row hl2
                rw [hzj] at hcj hdrj
                have h6 : (j : Int) < (ys.length : Int) := by omega
                have HVJ : Hid (dgB zj = false) := Lib.hid (by rw [← hdrj, hdj])
                clear hzj hdrj
                have HJJ : Hid (runEnd ys i = j) := Lib.hid (by rw [HJ.out, runEnd_no hdj])
                clear hdj
                have hgb := (owns_lt HO1.out g rfl).1
                have hgl := (owns_lt HO1.out g rfl).2
                have hg2b := (owns_lt HO2.out g2 rfl).1
                have hg2l := (owns_lt HO2.out g2 rfl).2
                have hbs := HB.out.size
                go_wp2_with (first | (go_at_call 22; refine (dig_is HVJ _).mono ?_; rintro e w' ⟨rfl, rfl⟩) | (at_builtin; refine wpList_push _ rfl (.tmp 56) (.tmp 58) 36 rfl w1.heap.size 3 i0 (.int .i64 0) 1 8 Tryf.underlying36 hi hz0 hz1 hz2 rfl (by decide) _ _ _ _ rfl (HO1.out.alloc _) ⟨_, 0, none⟩ 1 1 [.int .i64 (i : Int)] rfl rfl (news_at2 (by simp)) (fun u hu => by simp at hu; subst hu; rfl) (by decide) (by unfold maxLen; omega) (by omega) (by simp; omega) ?_; intro ga ca w5 hown hgrow hwhere; have HOA := Lib.hid hown; have HGA := Lib.hid hgrow; have HWA := Lib.hid hwhere; have hs5 : wo.heap.size + 1 ≤ w5.heap.size := (by have := hgrow.size; simp at this; omega); have HOB := Lib.hid (owns_other (HO2.out.alloc _) hgrow (fun e => HNE.out (by simp only [blkOf, Option.map_some, Option.some.injEq] at e; exact e.symm))); clear hown hgrow hwhere) | (at_builtin; refine wpList_push _ rfl (.tmp 60) (.tmp 62) 36 rfl w1.heap.size 3 i0 (.int .i64 0) 1 8 Tryf.underlying36 hi hz0 hz1 hz2 rfl (by decide) _ _ _ _ rfl (HOB.out.alloc _) ⟨_, 0, none⟩ 1 1 [.int .i64 (j : Int)] rfl rfl (news_at2 (by simp)) (fun u hu => by simp at hu; subst hu; rfl) (by decide) (by unfold maxLen; omega) (by omega) (by simp; omega) ?_; intro gb cb w6 hown hgrow hwhere; have HOC := Lib.hid hown; have HGC := Lib.hid hgrow; have HWC := Lib.hid hwhere; clear hown hgrow hwhere))
                go_roundw
                case rel => exact drel_yes HD.out HJJ.out hgl hg2l hgb hg2b HNE.out HB.out hbs HOA.out HGA.out HWA.out HOC.out HGC.out HWC.out HE.out hls (by omega)
                case measure => simp [intOf]; omega
              · have h6 : ¬ (j : Int) < (ys.length : Int) := by omega
                have HJJ : Hid (runEnd ys i = j) := Lib.hid (by rw [HJ.out, runEnd_no hdj])
                clear hdj
                have hgb := (owns_lt HO1.out g rfl).1
                have hgl := (owns_lt HO1.out g rfl).2
                have hg2b := (owns_lt HO2.out g2 rfl).1
                have hg2l := (owns_lt HO2.out g2 rfl).2
                have hbs := HB.out.size
                go_wp2_with (first | (at_builtin; refine wpList_push _ rfl (.tmp 56) (.tmp 58) 36 rfl w1.heap.size 3 i0 (.int .i64 0) 1 8 Tryf.underlying36 hi hz0 hz1 hz2 rfl (by decide) _ _ _ _ rfl (HO1.out.alloc _) ⟨_, 0, none⟩ 1 1 [.int .i64 (i : Int)] rfl rfl (news_at2 (by simp)) (fun u hu => by simp at hu; subst hu; rfl) (by decide) (by unfold maxLen; omega) (by omega) (by simp; omega) ?_; intro ga ca w5 hown hgrow hwhere; have HOA := Lib.hid hown; have HGA := Lib.hid hgrow; have HWA := Lib.hid hwhere; have hs5 : wo.heap.size + 1 ≤ w5.heap.size := (by have := hgrow.size; simp at this; omega); have HOB := Lib.hid (owns_other (HO2.out.alloc _) hgrow (fun e => HNE.out (by simp only [blkOf, Option.map_some, Option.some.injEq] at e; exact e.symm))); clear hown hgrow hwhere) | (at_builtin; refine wpList_push _ rfl (.tmp 60) (.tmp 62) 36 rfl w1.heap.size 3 i0 (.int .i64 0) 1 8 Tryf.underlying36 hi hz0 hz1 hz2 rfl (by decide) _ _ _ _ rfl (HOB.out.alloc _) ⟨_, 0, none⟩ 1 1 [.int .i64 (j : Int)] rfl rfl (news_at2 (by simp)) (fun u hu => by simp at hu; subst hu; rfl) (by decide) (by unfold maxLen; omega) (by omega) (by simp; omega) ?_; intro gb cb w6 hown hgrow hwhere; have HOC := Lib.hid hown; have HGC := Lib.hid hgrow; have HWC := Lib.hid hwhere; clear hown hgrow hwhere))
                go_roundw
                case rel => exact drel_yes HD.out HJJ.out hgl hg2l hgb hg2b HNE.out HB.out hbs HOA.out HGA.out HWA.out HOC.out HGC.out HWC.out HE.out hls (by omega)
                case measure => simp [intOf]; omega
        · have hR : ls = S := by rw [← HE.out, runs_end (by omega), List.append_nil]
          obtain rfl : S = ls := hR.symm
          have HNA := Lib.hid (natsAt_of HO1.out)
          have HNB := Lib.hid (natsAt_of HO2.out)
          have HB2 := Lib.hid (HB1.out.trans (HB.out.mono HB1.out.size))
          have HR2 := Lib.hid (HR1.out.below HB.out (Nat.le_refl _))
          have HF2 : Hid (∀ x, a' = some x → x.block < wr.heap.size) := Lib.hid (fun x hx => Nat.lt_of_lt_of_le (HF.out x hx).2 HB.out.size)
          clear HO1 HO2 HB HE HNE
          rcases HCASE.out with ⟨hc1, hc2, hc3⟩ | ⟨hc1, hc2⟩
          · have k0 := HNA.out 0 (by rw [List.length_map]; exact hc1)
            rw [hc2] at k0
            have hc4 : decide (0 < S.length) = true := decide_eq_true hc1
            clear hc2
            go_wp2_with (go_at_call 19; refine (kept_is _ (by omega) HN).mono ?_; rintro e w' ⟨rfl, rfl⟩)
            refine (find_digAt off a2 HS.out HN.out (HFB.out.symm) HR2.out HF2.out HBY.out (by omega) hoff).mono ?_
            rintro e w3 ⟨g3, cap3, rfl, hfd, hb3⟩
            have HFD := Lib.hid hfd
            have HB3 := Lib.hid (HB2.out.trans (hb3.mono HB2.out.size))
            have HN1 := Lib.hid (HNA.out.below hb3 (Nat.le_refl _))
            have HN2 := Lib.hid (HNB.out.below hb3 (Nat.le_refl _))
            clear hfd hb3
            go_wp2_with fail
            go_loopw [15] (fun v15 wr => ∃ k : Nat, k ≤ n ∧ v15 = .int .i64 k ∧ Hid (∃ q, wr = w3.drewN q)) (fun v15 _ => n - (intOf v15).toNat)
            case atStart => exact ⟨0, Nat.zero_le _, rfl, Lib.hid ⟨0, rfl⟩⟩
            case round =>
              obtain ⟨k, hk, rfl, HQ⟩ := hrel
              by_cases hlt : k < n
              · have hkS : k < S.length := by omega
                obtain ⟨m, ao, c, hcell, hmd⟩ := HFD.out k hlt
                have hsb := HSB.out k hkS
                have hl1 := HN1.out k (by rw [List.length_map]; exact hkS)
                have hl2 := HN2.out k (by rw [List.length_map]; exact hkS)
                rw [runs_fst hkS] at hl1
                rw [runs_snd hkS] at hl2
                unfold digWord at hmd
                obtain ⟨⟨sk, ek⟩, hsk⟩ : ∃ sk, S.getD k (0, 0) = sk := ⟨_, rfl⟩
                simp only [hsk] at hsb hl1 hl2 hmd
                clear hsk
                obtain ⟨us, hmu, hln, hf0, hf1, hv0, hv1⟩ := two_words hmd (by omega) (by omega)
                have hcw : wr.cell? ⟨g3, k, none⟩ = some (.pointer (some ⟨m, 0, none⟩)) := by obtain ⟨q, rfl⟩ := HQ.out; exact hcell
                have haw : wr.cell? ⟨g, k, none⟩ = some (.int .i64 (sk : Int)) := by obtain ⟨q, rfl⟩ := HQ.out; exact hl1
                have hbw : wr.cell? ⟨g2, k, none⟩ = some (.int .i64 (ek : Int)) := by obtain ⟨q, rfl⟩ := HQ.out; exact hl2
                have HMW : Hid (MD wr m ao c us) := by obtain ⟨q, rfl⟩ := HQ.out; exact Lib.hid (hmu.drewO q)
                have HL0 : Hid (0 < us.length) := Lib.hid (by omega)
                have HL1 : Hid (1 < us.length) := Lib.hid (by omega)
                have HL2 : Hid ((us.length : Int) = 2) := Lib.hid (by omega)
                have HV1 := Lib.hid hv1
                have HV0 := Lib.hid hv0
                have HF0 := Lib.hid hf0
                have HF1 := Lib.hid hf1
                have h1 : (k : Int) < (n : Int) := by omega
                have h2 : (k : Int) < (S.length : Int) := by omega
                clear hcell hl1 hl2 hmd hmu hln hf0 hf1 hv0 hv1 hsb
                go_wp2_with (first | (go_at_call 12; refine (capLen_is HMW.out HL2.out).mono ?_; rintro e w' ⟨rfl, rfl⟩) | (go_at_call 15; refine (pos_z 0 HMW.out (v := false) HL0.out (by rfl) HF0.out).mono ?_; rintro e w' ⟨rfl, rfl⟩) | (go_at_call 15; refine (pos_z 1 HMW.out (v := false) HL1.out (by rfl) HF1.out).mono ?_; rintro e w' ⟨rfl, rfl⟩))
                go_quiet ((first | (go_at_call 14; exact Calls.quiet_of_same ((cap_z 0 (HMW.out.drewO _) (v := (sk : Int)) HL0.out (by rfl) HV0.out).mono fun _ _ h => ⟨h.1, h.2.symm⟩)) | (go_at_call 14; exact Calls.quiet_of_same ((cap_z 1 (HMW.out.drewO _) (v := (ek : Int)) HL1.out (by rfl) HV1.out).mono fun _ _ h => ⟨h.1, h.2.symm⟩))))
                generalize hwd : World.drewN wr _ = wd
                have HQ2 : Hid (∃ q, wd = w3.drewN q) := by subst hwd; obtain ⟨q, hq⟩ := HQ.out; rw [hq]; exact Lib.hid ⟨q + nq, by rw [World.drewN_drewN]⟩
                clear hwd
                go_wp2_with fail
                go_roundw
                case rel => exact ⟨k + 1, by omega, by go_num, HQ2⟩
                case measure => simp [intOf]; omega
              · obtain rfl : k = n := by omega
                go_wp2_with fail
                go_ret
                obtain ⟨q, rfl⟩ := HQ.out
                exact ⟨rfl, below_drewN HB3.out q⟩
          · subst hc2
            have hc4 : decide (0 < S.length) = false := decide_eq_false (by omega)
            have HC1 := Lib.hid hc1
            clear hc1
            go_wp2_with (go_at_call 19; refine (kept_is _ (by omega) HN).mono ?_; rintro e w' ⟨rfl, rfl⟩)
            refine (find_digAt off a2 HS.out HN.out (HFB.out.symm) HR2.out HF2.out HBY.out (by omega) hoff).mono ?_
            rintro e w3 ⟨g3, cap3, rfl, hfd, hb3⟩
            have HFD := Lib.hid hfd
            have HB3 := Lib.hid (HB2.out.trans (hb3.mono HB2.out.size))
            have HN1 := Lib.hid (HNA.out.below hb3 (Nat.le_refl _))
            have HN2 := Lib.hid (HNB.out.below hb3 (Nat.le_refl _))
            clear hfd hb3
            go_wp2_with fail
            go_loopw [15] (fun v15 wr => ∃ k : Nat, k ≤ n ∧ v15 = .int .i64 k ∧ Hid (∃ q, wr = w3.drewN q)) (fun v15 _ => n - (intOf v15).toNat)
            case atStart => exact ⟨0, Nat.zero_le _, rfl, Lib.hid ⟨0, rfl⟩⟩
            case round =>
              obtain ⟨k, hk, rfl, HQ⟩ := hrel
              by_cases hlt : k < n
              · have hkS : k < S.length := by omega
                obtain ⟨m, ao, c, hcell, hmd⟩ := HFD.out k hlt
                have hsb := HSB.out k hkS
                have hl1 := HN1.out k (by rw [List.length_map]; exact hkS)
                have hl2 := HN2.out k (by rw [List.length_map]; exact hkS)
                rw [runs_fst hkS] at hl1
                rw [runs_snd hkS] at hl2
                unfold digWord at hmd
                obtain ⟨⟨sk, ek⟩, hsk⟩ : ∃ sk, S.getD k (0, 0) = sk := ⟨_, rfl⟩
                simp only [hsk] at hsb hl1 hl2 hmd
                clear hsk
                obtain ⟨us, hmu, hln, hf0, hf1, hv0, hv1⟩ := two_words hmd (by omega) (by omega)
                have hcw : wr.cell? ⟨g3, k, none⟩ = some (.pointer (some ⟨m, 0, none⟩)) := by obtain ⟨q, rfl⟩ := HQ.out; exact hcell
                have haw : wr.cell? ⟨g, k, none⟩ = some (.int .i64 (sk : Int)) := by obtain ⟨q, rfl⟩ := HQ.out; exact hl1
                have hbw : wr.cell? ⟨g2, k, none⟩ = some (.int .i64 (ek : Int)) := by obtain ⟨q, rfl⟩ := HQ.out; exact hl2
                have HMW : Hid (MD wr m ao c us) := by obtain ⟨q, rfl⟩ := HQ.out; exact Lib.hid (hmu.drewO q)
                have HL0 : Hid (0 < us.length) := Lib.hid (by omega)
                have HL1 : Hid (1 < us.length) := Lib.hid (by omega)
                have HL2 : Hid ((us.length : Int) = 2) := Lib.hid (by omega)
                have HV1 := Lib.hid hv1
                have HV0 := Lib.hid hv0
                have HF0 := Lib.hid hf0
                have HF1 := Lib.hid hf1
                have h1 : (k : Int) < (n : Int) := by omega
                have h2 : (k : Int) < (S.length : Int) := by omega
                clear hcell hl1 hl2 hmd hmu hln hf0 hf1 hv0 hv1 hsb
                go_wp2_with (first | (go_at_call 12; refine (capLen_is HMW.out HL2.out).mono ?_; rintro e w' ⟨rfl, rfl⟩) | (go_at_call 15; refine (pos_z 0 HMW.out (v := false) HL0.out (by rfl) HF0.out).mono ?_; rintro e w' ⟨rfl, rfl⟩) | (go_at_call 15; refine (pos_z 1 HMW.out (v := false) HL1.out (by rfl) HF1.out).mono ?_; rintro e w' ⟨rfl, rfl⟩))
                go_quiet ((first | (go_at_call 14; exact Calls.quiet_of_same ((cap_z 0 (HMW.out.drewO _) (v := (sk : Int)) HL0.out (by rfl) HV0.out).mono fun _ _ h => ⟨h.1, h.2.symm⟩)) | (go_at_call 14; exact Calls.quiet_of_same ((cap_z 1 (HMW.out.drewO _) (v := (ek : Int)) HL1.out (by rfl) HV1.out).mono fun _ _ h => ⟨h.1, h.2.symm⟩))))
                generalize hwd : World.drewN wr _ = wd
                have HQ2 : Hid (∃ q, wd = w3.drewN q) := by subst hwd; obtain ⟨q, hq⟩ := HQ.out; rw [hq]; exact Lib.hid ⟨q + nq, by rw [World.drewN_drewN]⟩
                clear hwd
                go_wp2_with fail
                go_roundw
                case rel => exact ⟨k + 1, by omega, by go_num, HQ2⟩
                case measure => simp [intOf]; omega
              · obtain rfl : k = n := by omega
                go_wp2_with fail
                go_ret
                obtain ⟨q, rfl⟩ := HQ.out
                exact ⟨rfl, below_drewN HB3.out q⟩

/-! ### THE ROW's STEP -/
set_option maxRecDepth 100000 in
theorem lifted (os : Os) (started : os.Started) (H : Type) (enc : TypeId × Value → H) :
    ReturnsInTold none {} Tryf.checked os 6 .any Input.okWide ((OpenSpec.ofChange Rows.fnFindDigitRunsAreMaximalSpec).preRow enc Tryf.prog Tryf.f6 [] false []) (fun G => ((OpenSpec.ofChange Rows.fnFindDigitRunsAreMaximalSpec).at G).post enc Tryf.prog Tryf.f6 false true false false) (aloneAtReturn Tryf.prog) nothingAlways := by
  refine returnsInTold_of_row (C := Tryf.checked) (s := OpenSpec.ofChange Rows.fnFindDigitRunsAreMaximalSpec) (by kernel_rfl) own started (by kernel_rfl) Tryf.func6
    (OpenSpec.witness_stopped (enc := enc) (C := Tryf.checked) false ⟨#[], #[.slice none 0 0, .int .i64 0, .int .i64 0], []⟩ 8 (by kernel_rfl) (by kernel_rfl) (by kernel_rfl) (by kernel_rfl)) ?_
  intro G W base args ds gs before _ hF hval0 hW _ _ _ _ _
  have hval : ∀ (j : Nat) t v, Tryf.f6.params[j]? = some t → args[j]? = some v → Value.okWide Tryf.prog W .any base t v := hval0
  have hW' := hW
  obtain ⟨p, q, hA0, hV, rfl, hfz, hnd⟩ := hW
  have hA : DataW.TrodAll enc Tryf.prog W 0 (fun _ => true) true Tryf.f6.params.toList args.toList ds p := hA0
  rw [Tryf.params6] at hA hval
  obtain ⟨v0, vs0, d0, ds0, p0, q0, hargs, rfl, rfl, h0, r0⟩ := trodAll_cons hA
  obtain ⟨v1, vs1, d1, ds1, p1, q1, rfl, rfl, rfl, h1, r1⟩ := trodAll_cons r0
  obtain ⟨v2, vs2, d2, ds2, p2, q2, rfl, rfl, rfl, h2, r2⟩ := trodAll_cons r1
  obtain ⟨rfl, rfl, rfl⟩ := trodAll_nil r2
  obtain rfl : args = #[v0, v1, v2] := by cases args; simp_all
  obtain ⟨rfl, rfl⟩ := trodVars_none hV
  obtain ⟨a0, len0, cap0, rfl⟩ := okWide_slice Tryf.underlying22 (hval 0 22 v0 rfl rfl)
  have k0 := h0
  have lt0 : ∀ x ∈ p0, x.block < W.heap.size := by obtain ⟨m, hm⟩ := k0; exact DataW.trod_lt m _ _ _ hm
  obtain ⟨z0, w0⟩ : ∃ zs, IsRow .u8 W a0 len0 cap0 zs := by
    obtain ⟨fuel, hf⟩ := h0
    rcases open_ints Tryf.underlying22 Tryf.underlying5 (by kernel_rfl) hf with ⟨hcs, _⟩ | ⟨x, l, c, zs, hcs, _, hl, hm, hz, _, hcell, hwz⟩
    · simp [Value.cells] at hcs
      obtain ⟨rfl, rfl, rfl⟩ := hcs
      exact ⟨[], .inl ⟨rfl, rfl, rfl, rfl⟩⟩
    · simp [Value.cells] at hcs
      obtain ⟨rfl, rfl, rfl⟩ := hcs
      exact ⟨zs, .inr ⟨_, rfl, hl, hm, by simpa using hz, hcell, hwz⟩⟩
  obtain ⟨a1, rfl, rfl, rfl, w1⟩ := open_int Tryf.underlying3 (hval 1 3 v1 rfl rfl) h1
  obtain ⟨a2, rfl, rfl, rfl, w2⟩ := open_int Tryf.underlying3 (hval 2 3 v2 rfl rfl) h2
  clear hA0 hval0
  refine (walk a0 len0 cap0 z0 a1 a2 W w0 w1 w2).mono fun e W' ⟨he, bel⟩ => ?_
  subst he
  exact ⟨_, rfl, _, _, _, [], _, [], hW', trodAll_mk1 (shut_bool Tryf.underlying4 _), (trodAll_cons_mk (Below.trod laidOut (by kernel_rfl) (of_decide_eq_true (by kernel_rfl)) k0 bel lt0) (trodAll_cons_mk (shut_int Tryf.underlying3 w1) (trodAll_cons_mk (shut_int Tryf.underlying3 w2) trodAll_mk0))), rfl, bel.frame _, fun h => by cases h⟩

/-- ████ THE STATEMENT ████ -/
theorem proved : Rows.FnFindDigitRunsAreMaximalToldSaid :=
  Claim7.holds_of_told_any 6 Tryf.f6 "fmt.Sprintf, its operands' methods called" [] [] (true, "34b94395d7252693a5ce94132afb07188437961119665ac3de06d967ac166f6d") true false (by kernel_rfl) rfl rfl rfl laidOut (by kernel_rfl) rfl ⟨rfl, rfl, rfl, rfl, rfl, rfl, rfl⟩ rfl rfl (by kernel_rfl) (by kernel_rfl) Tryf.func6 (by kernel_rfl)
    (of_decide_eq_true (by kernel_rfl)) (by unfold Func.isWrapper; first | (rw [if_pos (by decide +kernel)]; kernel_rfl) | (rw [if_neg (by decide +kernel)]; exact ⟨rfl, rfl⟩)) stops.symm rfl stopKnobs.symm (by kernel_rfl)
    (by kernel_rfl) (by kernel_rfl) (by kernel_rfl) (by kernel_rfl) (by kernel_rfl) (by kernel_rfl) (by kernel_rfl) (by kernel_rfl) (by kernel_rfl) rfl (by kernel_rfl) rfl rfl
    rfl rfl
    rfl (by kernel_rfl) (by kernel_rfl) (by kernel_rfl) (by decide) (by kernel_rfl)
    (OpenClaim.moreEntering_of (by kernel_rfl) (by kernel_rfl) (by kernel_rfl) (by kernel_rfl) (by kernel_rfl) (by kernel_rfl) (by kernel_rfl) (by kernel_rfl) (by kernel_rfl) (by kernel_rfl))
    ⟨_, WideRow.started_initial, quiet _⟩
    (fun os started _ H enc _ => lifted os started H enc)
#print axioms proved
end Go.Proofs.YtankjgbcpdodgaaFmt.fnFindDigitRunsAreMaximal
