/-
  The given statement on FnAddPosCaptureScript: for every input the law returns true and leaves its arguments as they were. No condition beyond the statement's own.
  The frame was written by the kit's proof-skeleton.
-/
import Derived.Test.YtidgncgjjiigpaaHelp93
import Derived.StillTailTactics
import Derived.Test.YtidgncgjjiigpaaRows
import Derived.WalkKit
import Derived.ProofKit
import Derived.OpenShut
import Derived.ShutString
import Derived.ChangeOld
import Derived.Below
namespace Go.Proofs.Ytidgncgjjiigpaa.fnAddPosCaptureScript
open Go.ChangeShapes Go.WideShapes Go.ChangeAt Go.RowKit
open Go.ChangeMaps (open_string shut_string)
set_option linter.unusedVariables false

theorem own : ownKnob Try.prog.godebug = none := by kernel_rfl
theorem laidOut : laidOutB Try.prog = true := by kernel_rfl

/-- WHAT THE WALK IS TOLD OF A SLICE OF INTEGERS THAT CAME IN: it is nil; or it leads to a row of 'cap' cells, the numbers 'zs' (the first 'len' are its elements, the rest its spare room), each fitting its kind. -/
def IsRow (k : IntKind) (w : World) (a : Option Addr) (len cap : Nat) (zs : List Int) : Prop :=
  (a = none ∧ len = 0 ∧ cap = 0 ∧ zs = []) ∨
  ∃ x, a = some x ∧ len ≤ cap ∧ cap ≤ maxLen ∧ zs.length = cap ∧ (∀ i, i < zs.length → w.cell? (x.add i) = some (.int k (zs.getD i 0))) ∧ ∀ n ∈ zs, (Lit.int k n).wf = true

/-- What 'IsRow' says, over the elements alone. -/
theorem isRow_told {k : IntKind} {w : World} {a : Option Addr} {len cap : Nat} {zs : List Int} (h : IsRow k w a len cap zs) :
    ∃ ys : List Int, ys.length = len ∧ RowInt k w a ys ∧ (a = none → ys.length = 0) ∧ len ≤ 9223372036854775807 ∧ (∀ n, n ∈ ys → (Lit.int k n).wf = true) := by
  rcases h with ⟨rfl, rfl, rfl, rfl⟩ | ⟨x, rfl, hl, hm, hz, hcell, hwz⟩
  · exact ⟨[], rfl, fun h0 => absurd h0 (Nat.lt_irrefl _), fun _ => rfl, by omega, fun n hn => by simp at hn⟩
  · refine ⟨zs.take len, by simp; omega, fun h0 => ?_, fun h0 => (by cases h0), by unfold maxLen at hm; omega, fun n hn => hwz n (List.mem_of_mem_take hn)⟩
    have h0' : 0 < len := by simp at h0; omega
    have hsp : x.spot = none := by simpa [Addr.add] using World.cell?_spot (hcell 0 (by omega))
    obtain ⟨b, off, spot⟩ := x
    simp only at hsp
    subst hsp
    refine ⟨b, off, rfl, fun i hi => ?_⟩
    have h1 := hcell i (by simp at hi; omega)
    rw [addr_add] at h1
    rw [h1]
    simp only [List.length_take] at hi
    rw [List.getD_eq_getElem?_getD, List.getD_eq_getElem?_getD, List.getElem?_take_of_lt (by omega)]

set_option maxHeartbeats 4000000
set_option maxRecDepth 100000

/-! ### STEP 1: THE WALK: the Go text returns true, AND WRITES NOTHING THAT WAS THERE: 'Below w.heap.size w w'' (Derived/Below.lean: '.refl', '.alloc', '.drew', '.setCell' at a new block, '.trans'). Open each 'IsRow' by 'rcases' AHEAD of 'go_enter'; part every test ahead of the walk. -/
theorem walk (a0 : Option Addr) (len0 cap0 : Nat) (z0 : List Int) (a1 : Option Addr) (len1 cap1 : Nat) (z1 : List Int) (w : World) (w0 : IsRow .i64 w a0 len0 cap0 z0) (w1 : IsRow .i64 w a1 len1 cap1 z1) :
    Calls Try.prog 5 #[.slice a0 len0 cap0, .slice a1 len1 cap1] w fun e w' => e = .returned (.bool true) ∧ Below w.heap.size w w' := by
  obtain ⟨ys, rfl, hrow, hnil, hlen, hwf⟩ := isRow_told w0
  obtain ⟨os, rfl, hrow', hnil', hlen', hwf'⟩ := isRow_told w1
  have HW := Lib.hid (fun z hz => i64_bd (hwf z hz) : ∀ z, z ∈ ys → -9223372036854775808 ≤ z ∧ z ≤ 9223372036854775807)
  have HR := Lib.hid hrow
  have HNI := Lib.hid hnil
  have HR' := Lib.hid hrow'
  have HNI' := Lib.hid hnil'
  clear w0 w1 hwf hwf' hrow hrow' hnil hnil'
  by_cases hb : ys.length ≤ 1048576 ∧ ys.length + os.length ≤ 1048576
  · have tb : decide (ys.length ≤ 1048576 ∧ ys.length + os.length ≤ 1048576) = true := decide_eq_true hb
    obtain ⟨hb1, hb2⟩ := hb
    rcases (show 4096 < ys.length ∨ (ys.length ≤ 4096 ∧ 4096 < os.length) ∨ (ys.length ≤ 4096 ∧ os.length ≤ 4096 ∧ os.length < ys.length) ∨ (ys.length ≤ 4096 ∧ os.length ≤ 4096 ∧ ys.length ≤ os.length) by omega) with q | ⟨q, q'⟩ | ⟨q, q', q''⟩ | ⟨q, q', q''⟩
    · have t1 : decide (4096 < (ys.length : Int)) = true := decide_eq_true (by omega)
      go_enter Try.func5, Try.ntmps5
      go_wp2_with (go_at_call 12; refine (guard_any _ _ _ _ _ _ hlen hlen' _).mono ?_; rintro e w' ⟨rfl, rfl⟩)
      go_ret
      exact ⟨rfl, Below.refl _ _⟩
    · have t1 : decide (4096 < (ys.length : Int)) = false := decide_eq_false (by omega)
      have t2 : decide (4096 < (os.length : Int)) = true := decide_eq_true (by omega)
      go_enter Try.func5, Try.ntmps5
      go_wp2_with (go_at_call 12; refine (guard_any _ _ _ _ _ _ hlen hlen' _).mono ?_; rintro e w' ⟨rfl, rfl⟩)
      go_ret
      exact ⟨rfl, Below.refl _ _⟩
    · skip
      obtain ⟨n, hn⟩ : ∃ n, n = min ys.length os.length := ⟨_, rfl⟩
      have hn1 : n ≤ ys.length := by omega
      have hn2 : n ≤ os.length := by omega
      have hn3 : n ≤ 4096 := by omega
      obtain rfl : n = os.length := by omega
      clear hn
      have t1 : decide (4096 < (ys.length : Int)) = false := decide_eq_false (by omega)
      have t2 : decide (4096 < (os.length : Int)) = false := decide_eq_false (by omega)
      go_enter Try.func5, Try.ntmps5
      go_wp2_with (go_at_call 12; refine (guard_any _ _ _ _ _ _ hlen hlen' _).mono ?_; rintro e w' ⟨rfl, rfl⟩)

      go_loop [6] (fun i => ∃ k : Nat, k ≤ os.length ∧ i = .int .i64 k ∧ ∀ j, j < k → 0 ≤ ys.getD j 0 ∧ ys.getD j 0 ≤ 4096) (fun i => os.length - (intOf i).toNat)
      case atStart => exact ⟨0, Nat.zero_le _, rfl, fun j hj => absurd hj (Nat.not_lt_zero _)⟩
      case round =>
        obtain ⟨k, hk, rfl, hall⟩ := hrel
        have HA := Lib.hid hall
        clear hall
        by_cases hlt : k < os.length
        · obtain ⟨sb, so, rfl, hc⟩ := HR.out (by omega)
          replace hc := hc k (by omega)
          obtain ⟨z, hz⟩ : ∃ z, z = ys.getD k 0 := ⟨_, rfl⟩
          rw [← hz] at hc
          have HZ := Lib.hid hz
          clear hz
          rcases (show z < 0 ∨ (0 ≤ z ∧ 4096 < z) ∨ (0 ≤ z ∧ z ≤ 4096) by omega) with q | ⟨q, q'⟩ | ⟨q, q'⟩
          · have t1 : decide (z < 0) = true := decide_eq_true q
            go_wp2_with fail
            go_ret
            exact ⟨rfl, Below.refl _ _⟩
          · have t1 : decide (z < 0) = false := decide_eq_false (by omega)
            have t2 : decide (4096 < z) = true := decide_eq_true q'
            go_wp2_with fail
            go_ret
            exact ⟨rfl, Below.refl _ _⟩
          · have t1 : decide (z < 0) = false := decide_eq_false (by omega)
            have t2 : decide (4096 < z) = false := decide_eq_false (by omega)
            go_wp2_with fail
            go_round
            case rel =>
              refine ⟨k + 1, by omega, by go_num, fun j hj => ?_⟩
              rcases (show j < k ∨ j = k by omega) with h | rfl
              · exact HA.out j h
              · rw [← HZ.out]; exact ⟨q, q'⟩
            case measure => first | (simp [intOf]; done) | (simp [intOf]; omega)
        · obtain rfl : k = os.length := by omega
          go_wp2_with fail
          refine (copyI_any a0 cap0 ys _ HR.out HNI.out (by omega)).mono ?_
          rintro e w1 ⟨a', c', rfl, hx1, hf1, hr1, hb1⟩
          have HR1 := Lib.hid hr1
          have HB1 := Lib.hid hb1
          have HF1 := Lib.hid hf1
          have HRo := Lib.hid (HR'.out.below hb1 (Nat.le_refl _))
          clear hr1 hb1 hx1 hf1
          go_wp2_with fail
          refine (copyI_any a1 cap1 os _ HRo.out HNI'.out (by omega)).mono ?_
          rintro e w1b ⟨o', d', rfl, hx1, hf1, hr1, hb1⟩
          have HR1b := Lib.hid (HR1.out.below hb1 (Nat.le_refl _))
          have HO1 := Lib.hid hr1
          have HB1b := Lib.hid (HB1.out.trans (hb1.mono HB1.out.size))
          clear hr1 hb1 hx1 hf1
          go_wp2_with fail
          refine (zzNewM_any _).mono ?_
          rintro e w2 ⟨rfl, hm2, hb2, hz2⟩
          have HM2 := Lib.hid hm2
          have HB2 := Lib.hid hb2
          have HY := Lib.hid (HR1b.out.below hb2 (Nat.le_refl _))
          have HO := Lib.hid (HO1.out.below hb2 (Nat.le_refl _))
          have HYo := Lib.hid HR1b.out
          have HOo := Lib.hid HO1.out
          clear hm2 hb2 hz2
          generalize hgg : w1b.heap.size = B at *
          have HGG := Lib.hid hgg
          clear hgg
          go_wp2_with fail
          go_loopw [8, 9] (fun l i wr => ∃ k : Nat, ∃ ao cap, k ≤ os.length ∧ i = .int .i64 k ∧ l = .int .i64 ((addsW ys os k).length : Int) ∧ MD wr (B + 1) ao cap (addsW ys os k) ∧ (∀ g, blkOf ao = some g → B ≤ g) ∧ Below B w1b wr) (fun _ i _ => os.length - (intOf i).toNat)
          case atStart => exact ⟨0, _, _, Nat.zero_le _, rfl, rfl, HM2.out, fun g hg => by simp only [blkOf, Option.map_some, Option.some.injEq] at hg; omega, HB2.out⟩
          case round =>
            obtain ⟨k, ao, cap, hk, rfl, rfl, hm, hro, hb⟩ := hrel
            have HM := Lib.hid hm
            have HRO := Lib.hid hro
            have HB := Lib.hid hb
            have hle := length_addsW_le ys os k (fun j hj => (HA.out j (by omega)).2)
            clear hm hro hb
            by_cases hlt2 : k < os.length
            · obtain ⟨sb, so, rfl, hc⟩ := (HYo.out.below HB.out (HGG.out ▸ Nat.le_refl _)) (by omega)
              obtain ⟨ob, oo, rfl, hd⟩ := (HOo.out.below HB.out (HGG.out ▸ Nat.le_refl _)) (by omega)
              replace hc := hc k (by omega)
              replace hd := hd k (by omega)
              have hbd := HA.out k (by omega)
              have hyo := HYo.out
              obtain ⟨sb', so', he, hc0⟩ := hyo (by omega)
              have hlt3 := lt_of_cell (hc0 k (by omega))
              injection he with he
              injection he with he1 he2
              subst he1 he2
              have HBL : Hid (sb < B) := by unfold Hid; have := HGG.out; simpa [this] using hlt3
              clear hyo hc0 hlt3
              obtain ⟨s, hs⟩ : ∃ s : Nat, ys.getD k 0 = (s : Int) := ⟨(ys.getD k 0).toNat, by omega⟩
              obtain ⟨p, hp⟩ : ∃ p, p = os.getD k 0 := ⟨_, rfl⟩
              rw [hs] at hc hbd
              rw [← hp] at hd
              have hs1 : s ≤ 4096 := by omega
              have hnx : addsW ys os (k + 1) = ((ext (addsW ys os k) (s + 2)).set s (posW p)).set (s + 1) (posW p) := by
                simp only [addsW, hs, ← hp, Int.toNat_natCast]
              have hnl : ((addsW ys os (k + 1)).length : Int) = max ((addsW ys os k).length : Int) ((s : Int) + 2) := by
                rw [length_addsW, hs, Int.toNat_natCast]; omega
              have HNX := Lib.hid hnx
              have HNL := Lib.hid hnl
              have HC := Lib.hid hc
              clear hs hp hnx hnl hbd
              go_wp2_with fail
              have ki1 : (k : Int) < (ys.length : Int) := by omega
              have ki2 : (k : Int) < (os.length : Int) := by omega
              go_still_tail 9, (by kernel_rfl)
              change wpList _ _ _ _ _ wr.drew
              go_wp2_with fail
              refine (zzAdd_any p HM.out.drew (by omega)).mono ?_
              rintro e w3 ⟨rfl, ao3, cap3, hm3, hv3⟩
              have hb3 := hv3.of_drew.below (B := B) (by omega) HRO.out (by have := HB.out.size; have := HGG.out; omega)
              have hc3 : w3.cell? ⟨sb, so + k, none⟩ = some (.int .i64 (s : Int)) := (hb3.cell (p := ⟨sb, so + k, none⟩) HBL.out).trans HC.out
              have hro3 := hv3.of_drew.rowB HRO.out (by have := HB.out.size; have := HGG.out; omega)
              have HM3 := Lib.hid hm3
              have HB3 := Lib.hid hb3
              have HRO3 := Lib.hid hro3
              clear hm3 hv3 hb3 hro3
              all_goals
                rw [← HNX.out] at HM3
                by_cases hbig : ((addsW ys os k).length : Int) < (s : Int) + 2
                · have hl3 : ((addsW ys os (k + 1)).length : Int) = (s : Int) + 2 := by have := HNL.out; omega
                  have HL3 := Lib.hid hl3
                  clear hl3
                  go_wp2_with fail
                  refine (capLen_any HM3.out).mono ?_
                  rintro e w' ⟨rfl, rfl⟩
                  rw [HL3.out]
                  go_wp2_with fail
                  go_roundw
                  case rel => exact ⟨k + 1, ao3, cap3, by omega, by go_num, by rw [HL3.out], HM3.out, HRO3.out, HB.out.trans HB3.out⟩
                  case measure => first | (simp [intOf]; done) | (simp [intOf]; omega)
                · have hl3 : ((addsW ys os (k + 1)).length : Int) = ((addsW ys os k).length : Int) := by have := HNL.out; omega
                  have HL3 := Lib.hid hl3
                  clear hl3
                  go_wp2_with fail
                  refine (capLen_any HM3.out).mono ?_
                  rintro e w' ⟨rfl, rfl⟩
                  rw [HL3.out]
                  go_wp2_with fail
                  go_roundw
                  case rel => exact ⟨k + 1, ao3, cap3, by omega, by go_num, by rw [HL3.out], HM3.out, HRO3.out, HB.out.trans HB3.out⟩
                  case measure => first | (simp [intOf]; done) | (simp [intOf]; omega)
            · obtain rfl : k = os.length := by omega
              go_wp2_with fail
              have HAT := Lib.hid (fun j => addsW_at ys os j os.length (fun q hq => (HA.out q hq).1))
              go_wp2_with fail
              obtain ⟨wo, rfl⟩ : ∃ wo : World, wo = wr := ⟨_, rfl⟩
              go_loopw [10] (fun j w' => ∃ jj : Nat, jj ≤ (addsW ys os os.length).length ∧ j = .int .i64 jj ∧ MD w' (B + 1) ao cap (addsW ys os os.length) ∧ Below B w1b w') (fun j _ => (addsW ys os os.length).length - (intOf j).toNat)
              case atStart => exact ⟨0, Nat.zero_le _, rfl, HM.out, HB.out⟩
              case round =>
                obtain ⟨jj, hjj, rfl, hm, hb⟩ := hrel
                clear HM HB
                have HM := Lib.hid hm
                have HB := Lib.hid hb
                clear hm hb
                by_cases hlt : jj < (addsW ys os os.length).length
                · have hat := HAT.out jj
                  have HT := Lib.hid hat
                  clear hat
                  go_wp2_with fail
                  go_loop [11, 12] (fun l i => ∃ (r : Nat) (x : Int), i = .int .i64 x ∧ x = (r : Int) - 1 ∧ r ≤ os.length ∧ l = .int .i64 (-1) ∧ lastOf ys jj os.length = lastOf ys jj r) (fun _ i => (intOf i + 1).toNat)
                  case atStart => exact ⟨os.length, _, rfl, rfl, Nat.le_refl _, rfl, rfl⟩
                  case round =>
                    obtain ⟨r, x, rfl, hx, hr, rfl, hlast⟩ := hrel
                    have HLA := Lib.hid hlast
                    clear hlast
                    cases r with
                    | zero =>
                      obtain rfl : x = -1 := by omega
                      clear hx
                      have hv : (addsW ys os os.length).getD jj 0 = 0 := by rw [HT.out, HLA.out]; rfl
                      have HI : Hid (((addsW ys os os.length).getD jj 0 % 2 == 1) = false) := by unfold Hid; rw [hv]; rfl
                      have HC : Hid ((addsW ys os os.length).getD jj 0 / 2 = 0) := by unfold Hid; rw [hv]; rfl
                      clear hv
                      go_wp2_with (first | (go_at_call 10; refine (isPos_is jj _ HM.out hlt HI).mono ?_; rintro e w' ⟨rfl, rfl⟩) | (go_at_call 11; refine (cap_is jj _ HM.out hlt HC).mono ?_; rintro e w' ⟨rfl, rfl⟩))
                      go_roundw
                      case rel => exact ⟨jj + 1, by omega, by go_num, HM.out, HB.out⟩
                      case measure => first | (simp [intOf]; done) | (simp [intOf]; omega)
                    | succ i =>
                      obtain rfl : x = (i : Int) := by omega
                      clear hx
                      have hyr := HYo.out.below HB.out (HGG.out ▸ Nat.le_refl _)
                      obtain ⟨sb, so, rfl, hc⟩ := hyr (by omega)
                      replace hc := hc i (by omega)
                      have ki1 : (i : Int) < (ys.length : Int) := by omega
                      obtain ⟨z, hz⟩ : ∃ z, z = ys.getD i 0 := ⟨_, rfl⟩
                      have hzb := HA.out i (by omega)
                      rw [← hz] at hc hzb
                      have hz1 := hzb.1
                      have hz2 := hzb.2
                      have HZ := Lib.hid hz
                      clear hz hyr hzb
                      by_cases hmiss : z ≠ (jj : Int) ∧ z + 1 ≠ (jj : Int)
                      · obtain ⟨hm1, hm2⟩ := hmiss
                        have t1 : (z == (jj : Int)) = false := by rw [beq_eq_false_iff_ne]; exact hm1
                        have t2 : (z + 1 == (jj : Int)) = false := by rw [beq_eq_false_iff_ne]; exact hm2
                        have hl2 : lastOf ys jj (i + 1) = lastOf ys jj i := by
                          simp only [lastOf]; rw [← HZ.out, if_neg (by omega)]
                        have HL2 := Lib.hid (HLA.out.trans hl2)
                        clear hm1 hm2 hl2
                        go_wp2_with fail
                        go_round
                        case rel => exact ⟨i, _, rfl, rfl, by omega, rfl, HL2.out⟩
                        case measure => first | (simp [intOf]; done) | (simp [intOf]; omega)
                      · obtain ⟨ob, oo, rfl, hd⟩ := (HOo.out.below HB.out (HGG.out ▸ Nat.le_refl _)) (by omega)
                        replace hd := hd i (by omega)
                        have ki2 : (i : Int) < (os.length : Int) := by omega
                        obtain ⟨p, hp⟩ : ∃ p, p = os.getD i 0 := ⟨_, rfl⟩
                        rw [← hp] at hd
                        have hl2 : lastOf ys jj (i + 1) = some i := by
                          simp only [lastOf]; rw [← HZ.out, if_pos (by omega)]
                        have hv : (addsW ys os os.length).getD jj 0 = posW p := by rw [HT.out, HLA.out, hl2, hp]
                        have HI : Hid (((addsW ys os os.length).getD jj 0 % 2 == 1) = true) := by unfold Hid; rw [hv]; exact posW_flag p
                        have HC : Hid ((addsW ys os os.length).getD jj 0 / 2 = p % 2147483648) := by unfold Hid; rw [hv]; exact posW_val p
                        have HM' := hmiss
                        have HMI := Lib.hid hmiss
                        clear hv hl2 hp hmiss HM'
                        by_cases hm1 : z = (jj : Int)
                        · have t1 : (z == (jj : Int)) = true := by rw [beq_iff_eq]; exact hm1
                          have HM1 := Lib.hid hm1
                          clear hm1
                          go_wp2_with fail
                          go_quiet ((first | (go_at_call 10; exact Calls.quiet_of_same ((isPos_is jj _ (HM.out.drewN _) hlt HI).mono fun _ _ h => ⟨h.1, h.2.symm⟩)) | (go_at_call 11; exact Calls.quiet_of_same ((cap_is jj _ (HM.out.drewN _) hlt HC).mono fun _ _ h => ⟨h.1, h.2.symm⟩)) | (go_at_call 9; exact Calls.quiet_of_same ((mod31_any p _).mono fun _ _ h => ⟨h.1, h.2.symm⟩))))
                          go_wp2_with fail
                          go_roundw
                          case rel => exact ⟨jj + 1, by omega, by go_num, HM.out.drewN _, below_drewN HB.out _⟩
                          case measure => first | (simp [intOf]; done) | (simp [intOf]; omega)
                        · have t1 : (z == (jj : Int)) = false := by rw [beq_eq_false_iff_ne]; exact hm1
                          have hm2 : z + 1 = (jj : Int) := by have := HMI.out; omega
                          have t2 : (z + 1 == (jj : Int)) = true := by rw [beq_iff_eq]; exact hm2
                          clear hm1 hm2
                          go_wp2_with fail
                          go_quiet ((first | (go_at_call 10; exact Calls.quiet_of_same ((isPos_is jj _ (HM.out.drewN _) hlt HI).mono fun _ _ h => ⟨h.1, h.2.symm⟩)) | (go_at_call 11; exact Calls.quiet_of_same ((cap_is jj _ (HM.out.drewN _) hlt HC).mono fun _ _ h => ⟨h.1, h.2.symm⟩)) | (go_at_call 9; exact Calls.quiet_of_same ((mod31_any p _).mono fun _ _ h => ⟨h.1, h.2.symm⟩))))
                          go_wp2_with fail
                          go_roundw
                          case rel => exact ⟨jj + 1, by omega, by go_num, HM.out.drewN _, below_drewN HB.out _⟩
                          case measure => first | (simp [intOf]; done) | (simp [intOf]; omega)
                · go_wp2_with fail
                  go_ret
                  exact ⟨rfl, HB1b.out.trans (HB.out.mono (HGG.out ▸ HB1b.out.size))⟩
    · skip
      obtain ⟨n, hn⟩ : ∃ n, n = min ys.length os.length := ⟨_, rfl⟩
      have hn1 : n ≤ ys.length := by omega
      have hn2 : n ≤ os.length := by omega
      have hn3 : n ≤ 4096 := by omega
      obtain rfl : n = ys.length := by omega
      clear hn
      have t1 : decide (4096 < (ys.length : Int)) = false := decide_eq_false (by omega)
      have t2 : decide (4096 < (os.length : Int)) = false := decide_eq_false (by omega)
      go_enter Try.func5, Try.ntmps5
      go_wp2_with (go_at_call 12; refine (guard_any _ _ _ _ _ _ hlen hlen' _).mono ?_; rintro e w' ⟨rfl, rfl⟩)

      go_loop [6] (fun i => ∃ k : Nat, k ≤ ys.length ∧ i = .int .i64 k ∧ ∀ j, j < k → 0 ≤ ys.getD j 0 ∧ ys.getD j 0 ≤ 4096) (fun i => ys.length - (intOf i).toNat)
      case atStart => exact ⟨0, Nat.zero_le _, rfl, fun j hj => absurd hj (Nat.not_lt_zero _)⟩
      case round =>
        obtain ⟨k, hk, rfl, hall⟩ := hrel
        have HA := Lib.hid hall
        clear hall
        by_cases hlt : k < ys.length
        · obtain ⟨sb, so, rfl, hc⟩ := HR.out (by omega)
          replace hc := hc k (by omega)
          obtain ⟨z, hz⟩ : ∃ z, z = ys.getD k 0 := ⟨_, rfl⟩
          rw [← hz] at hc
          have HZ := Lib.hid hz
          clear hz
          rcases (show z < 0 ∨ (0 ≤ z ∧ 4096 < z) ∨ (0 ≤ z ∧ z ≤ 4096) by omega) with q | ⟨q, q'⟩ | ⟨q, q'⟩
          · have t1 : decide (z < 0) = true := decide_eq_true q
            go_wp2_with fail
            go_ret
            exact ⟨rfl, Below.refl _ _⟩
          · have t1 : decide (z < 0) = false := decide_eq_false (by omega)
            have t2 : decide (4096 < z) = true := decide_eq_true q'
            go_wp2_with fail
            go_ret
            exact ⟨rfl, Below.refl _ _⟩
          · have t1 : decide (z < 0) = false := decide_eq_false (by omega)
            have t2 : decide (4096 < z) = false := decide_eq_false (by omega)
            go_wp2_with fail
            go_round
            case rel =>
              refine ⟨k + 1, by omega, by go_num, fun j hj => ?_⟩
              rcases (show j < k ∨ j = k by omega) with h | rfl
              · exact HA.out j h
              · rw [← HZ.out]; exact ⟨q, q'⟩
            case measure => first | (simp [intOf]; done) | (simp [intOf]; omega)
        · obtain rfl : k = ys.length := by omega
          go_wp2_with fail
          refine (copyI_any a0 cap0 ys _ HR.out HNI.out (by omega)).mono ?_
          rintro e w1 ⟨a', c', rfl, hx1, hf1, hr1, hb1⟩
          have HR1 := Lib.hid hr1
          have HB1 := Lib.hid hb1
          have HF1 := Lib.hid hf1
          have HRo := Lib.hid (HR'.out.below hb1 (Nat.le_refl _))
          clear hr1 hb1 hx1 hf1
          go_wp2_with fail
          refine (copyI_any a1 cap1 os _ HRo.out HNI'.out (by omega)).mono ?_
          rintro e w1b ⟨o', d', rfl, hx1, hf1, hr1, hb1⟩
          have HR1b := Lib.hid (HR1.out.below hb1 (Nat.le_refl _))
          have HO1 := Lib.hid hr1
          have HB1b := Lib.hid (HB1.out.trans (hb1.mono HB1.out.size))
          clear hr1 hb1 hx1 hf1
          go_wp2_with fail
          refine (zzNewM_any _).mono ?_
          rintro e w2 ⟨rfl, hm2, hb2, hz2⟩
          have HM2 := Lib.hid hm2
          have HB2 := Lib.hid hb2
          have HY := Lib.hid (HR1b.out.below hb2 (Nat.le_refl _))
          have HO := Lib.hid (HO1.out.below hb2 (Nat.le_refl _))
          have HYo := Lib.hid HR1b.out
          have HOo := Lib.hid HO1.out
          clear hm2 hb2 hz2
          generalize hgg : w1b.heap.size = B at *
          have HGG := Lib.hid hgg
          clear hgg
          go_wp2_with fail
          go_loopw [8, 9] (fun l i wr => ∃ k : Nat, ∃ ao cap, k ≤ ys.length ∧ i = .int .i64 k ∧ l = .int .i64 ((addsW ys os k).length : Int) ∧ MD wr (B + 1) ao cap (addsW ys os k) ∧ (∀ g, blkOf ao = some g → B ≤ g) ∧ Below B w1b wr) (fun _ i _ => ys.length - (intOf i).toNat)
          case atStart => exact ⟨0, _, _, Nat.zero_le _, rfl, rfl, HM2.out, fun g hg => by simp only [blkOf, Option.map_some, Option.some.injEq] at hg; omega, HB2.out⟩
          case round =>
            obtain ⟨k, ao, cap, hk, rfl, rfl, hm, hro, hb⟩ := hrel
            have HM := Lib.hid hm
            have HRO := Lib.hid hro
            have HB := Lib.hid hb
            have hle := length_addsW_le ys os k (fun j hj => (HA.out j (by omega)).2)
            clear hm hro hb
            by_cases hlt2 : k < ys.length
            · obtain ⟨sb, so, rfl, hc⟩ := (HYo.out.below HB.out (HGG.out ▸ Nat.le_refl _)) (by omega)
              obtain ⟨ob, oo, rfl, hd⟩ := (HOo.out.below HB.out (HGG.out ▸ Nat.le_refl _)) (by omega)
              replace hc := hc k (by omega)
              replace hd := hd k (by omega)
              have hbd := HA.out k (by omega)
              have hyo := HYo.out
              obtain ⟨sb', so', he, hc0⟩ := hyo (by omega)
              have hlt3 := lt_of_cell (hc0 k (by omega))
              injection he with he
              injection he with he1 he2
              subst he1 he2
              have HBL : Hid (sb < B) := by unfold Hid; have := HGG.out; simpa [this] using hlt3
              clear hyo hc0 hlt3
              obtain ⟨s, hs⟩ : ∃ s : Nat, ys.getD k 0 = (s : Int) := ⟨(ys.getD k 0).toNat, by omega⟩
              obtain ⟨p, hp⟩ : ∃ p, p = os.getD k 0 := ⟨_, rfl⟩
              rw [hs] at hc hbd
              rw [← hp] at hd
              have hs1 : s ≤ 4096 := by omega
              have hnx : addsW ys os (k + 1) = ((ext (addsW ys os k) (s + 2)).set s (posW p)).set (s + 1) (posW p) := by
                simp only [addsW, hs, ← hp, Int.toNat_natCast]
              have hnl : ((addsW ys os (k + 1)).length : Int) = max ((addsW ys os k).length : Int) ((s : Int) + 2) := by
                rw [length_addsW, hs, Int.toNat_natCast]; omega
              have HNX := Lib.hid hnx
              have HNL := Lib.hid hnl
              have HC := Lib.hid hc
              clear hs hp hnx hnl hbd
              go_wp2_with fail
              have ki1 : (k : Int) < (ys.length : Int) := by omega
              have ki2 : (k : Int) < (os.length : Int) := by omega
              go_still_tail 9, (by kernel_rfl)
              change wpList _ _ _ _ _ wr.drew
              go_wp2_with fail
              refine (zzAdd_any p HM.out.drew (by omega)).mono ?_
              rintro e w3 ⟨rfl, ao3, cap3, hm3, hv3⟩
              have hb3 := hv3.of_drew.below (B := B) (by omega) HRO.out (by have := HB.out.size; have := HGG.out; omega)
              have hc3 : w3.cell? ⟨sb, so + k, none⟩ = some (.int .i64 (s : Int)) := (hb3.cell (p := ⟨sb, so + k, none⟩) HBL.out).trans HC.out
              have hro3 := hv3.of_drew.rowB HRO.out (by have := HB.out.size; have := HGG.out; omega)
              have HM3 := Lib.hid hm3
              have HB3 := Lib.hid hb3
              have HRO3 := Lib.hid hro3
              clear hm3 hv3 hb3 hro3
              all_goals
                rw [← HNX.out] at HM3
                by_cases hbig : ((addsW ys os k).length : Int) < (s : Int) + 2
                · have hl3 : ((addsW ys os (k + 1)).length : Int) = (s : Int) + 2 := by have := HNL.out; omega
                  have HL3 := Lib.hid hl3
                  clear hl3
                  go_wp2_with fail
                  refine (capLen_any HM3.out).mono ?_
                  rintro e w' ⟨rfl, rfl⟩
                  rw [HL3.out]
                  go_wp2_with fail
                  go_roundw
                  case rel => exact ⟨k + 1, ao3, cap3, by omega, by go_num, by rw [HL3.out], HM3.out, HRO3.out, HB.out.trans HB3.out⟩
                  case measure => first | (simp [intOf]; done) | (simp [intOf]; omega)
                · have hl3 : ((addsW ys os (k + 1)).length : Int) = ((addsW ys os k).length : Int) := by have := HNL.out; omega
                  have HL3 := Lib.hid hl3
                  clear hl3
                  go_wp2_with fail
                  refine (capLen_any HM3.out).mono ?_
                  rintro e w' ⟨rfl, rfl⟩
                  rw [HL3.out]
                  go_wp2_with fail
                  go_roundw
                  case rel => exact ⟨k + 1, ao3, cap3, by omega, by go_num, by rw [HL3.out], HM3.out, HRO3.out, HB.out.trans HB3.out⟩
                  case measure => first | (simp [intOf]; done) | (simp [intOf]; omega)
            · obtain rfl : k = ys.length := by omega
              go_wp2_with fail
              have HAT := Lib.hid (fun j => addsW_at ys os j ys.length (fun q hq => (HA.out q hq).1))
              go_wp2_with fail
              obtain ⟨wo, rfl⟩ : ∃ wo : World, wo = wr := ⟨_, rfl⟩
              go_loopw [10] (fun j w' => ∃ jj : Nat, jj ≤ (addsW ys os ys.length).length ∧ j = .int .i64 jj ∧ MD w' (B + 1) ao cap (addsW ys os ys.length) ∧ Below B w1b w') (fun j _ => (addsW ys os ys.length).length - (intOf j).toNat)
              case atStart => exact ⟨0, Nat.zero_le _, rfl, HM.out, HB.out⟩
              case round =>
                obtain ⟨jj, hjj, rfl, hm, hb⟩ := hrel
                clear HM HB
                have HM := Lib.hid hm
                have HB := Lib.hid hb
                clear hm hb
                by_cases hlt : jj < (addsW ys os ys.length).length
                · have hat := HAT.out jj
                  have HT := Lib.hid hat
                  clear hat
                  go_wp2_with fail
                  go_loop [11, 12] (fun l i => ∃ (r : Nat) (x : Int), i = .int .i64 x ∧ x = (r : Int) - 1 ∧ r ≤ ys.length ∧ l = .int .i64 (-1) ∧ lastOf ys jj ys.length = lastOf ys jj r) (fun _ i => (intOf i + 1).toNat)
                  case atStart => exact ⟨ys.length, _, rfl, rfl, Nat.le_refl _, rfl, rfl⟩
                  case round =>
                    obtain ⟨r, x, rfl, hx, hr, rfl, hlast⟩ := hrel
                    have HLA := Lib.hid hlast
                    clear hlast
                    cases r with
                    | zero =>
                      obtain rfl : x = -1 := by omega
                      clear hx
                      have hv : (addsW ys os ys.length).getD jj 0 = 0 := by rw [HT.out, HLA.out]; rfl
                      have HI : Hid (((addsW ys os ys.length).getD jj 0 % 2 == 1) = false) := by unfold Hid; rw [hv]; rfl
                      have HC : Hid ((addsW ys os ys.length).getD jj 0 / 2 = 0) := by unfold Hid; rw [hv]; rfl
                      clear hv
                      go_wp2_with (first | (go_at_call 10; refine (isPos_is jj _ HM.out hlt HI).mono ?_; rintro e w' ⟨rfl, rfl⟩) | (go_at_call 11; refine (cap_is jj _ HM.out hlt HC).mono ?_; rintro e w' ⟨rfl, rfl⟩))
                      go_roundw
                      case rel => exact ⟨jj + 1, by omega, by go_num, HM.out, HB.out⟩
                      case measure => first | (simp [intOf]; done) | (simp [intOf]; omega)
                    | succ i =>
                      obtain rfl : x = (i : Int) := by omega
                      clear hx
                      have hyr := HYo.out.below HB.out (HGG.out ▸ Nat.le_refl _)
                      obtain ⟨sb, so, rfl, hc⟩ := hyr (by omega)
                      replace hc := hc i (by omega)
                      have ki1 : (i : Int) < (ys.length : Int) := by omega
                      obtain ⟨z, hz⟩ : ∃ z, z = ys.getD i 0 := ⟨_, rfl⟩
                      have hzb := HA.out i (by omega)
                      rw [← hz] at hc hzb
                      have hz1 := hzb.1
                      have hz2 := hzb.2
                      have HZ := Lib.hid hz
                      clear hz hyr hzb
                      by_cases hmiss : z ≠ (jj : Int) ∧ z + 1 ≠ (jj : Int)
                      · obtain ⟨hm1, hm2⟩ := hmiss
                        have t1 : (z == (jj : Int)) = false := by rw [beq_eq_false_iff_ne]; exact hm1
                        have t2 : (z + 1 == (jj : Int)) = false := by rw [beq_eq_false_iff_ne]; exact hm2
                        have hl2 : lastOf ys jj (i + 1) = lastOf ys jj i := by
                          simp only [lastOf]; rw [← HZ.out, if_neg (by omega)]
                        have HL2 := Lib.hid (HLA.out.trans hl2)
                        clear hm1 hm2 hl2
                        go_wp2_with fail
                        go_round
                        case rel => exact ⟨i, _, rfl, rfl, by omega, rfl, HL2.out⟩
                        case measure => first | (simp [intOf]; done) | (simp [intOf]; omega)
                      · obtain ⟨ob, oo, rfl, hd⟩ := (HOo.out.below HB.out (HGG.out ▸ Nat.le_refl _)) (by omega)
                        replace hd := hd i (by omega)
                        have ki2 : (i : Int) < (os.length : Int) := by omega
                        obtain ⟨p, hp⟩ : ∃ p, p = os.getD i 0 := ⟨_, rfl⟩
                        rw [← hp] at hd
                        have hl2 : lastOf ys jj (i + 1) = some i := by
                          simp only [lastOf]; rw [← HZ.out, if_pos (by omega)]
                        have hv : (addsW ys os ys.length).getD jj 0 = posW p := by rw [HT.out, HLA.out, hl2, hp]
                        have HI : Hid (((addsW ys os ys.length).getD jj 0 % 2 == 1) = true) := by unfold Hid; rw [hv]; exact posW_flag p
                        have HC : Hid ((addsW ys os ys.length).getD jj 0 / 2 = p % 2147483648) := by unfold Hid; rw [hv]; exact posW_val p
                        have HM' := hmiss
                        have HMI := Lib.hid hmiss
                        clear hv hl2 hp hmiss HM'
                        by_cases hm1 : z = (jj : Int)
                        · have t1 : (z == (jj : Int)) = true := by rw [beq_iff_eq]; exact hm1
                          have HM1 := Lib.hid hm1
                          clear hm1
                          go_wp2_with fail
                          go_quiet ((first | (go_at_call 10; exact Calls.quiet_of_same ((isPos_is jj _ (HM.out.drewN _) hlt HI).mono fun _ _ h => ⟨h.1, h.2.symm⟩)) | (go_at_call 11; exact Calls.quiet_of_same ((cap_is jj _ (HM.out.drewN _) hlt HC).mono fun _ _ h => ⟨h.1, h.2.symm⟩)) | (go_at_call 9; exact Calls.quiet_of_same ((mod31_any p _).mono fun _ _ h => ⟨h.1, h.2.symm⟩))))
                          go_wp2_with fail
                          go_roundw
                          case rel => exact ⟨jj + 1, by omega, by go_num, HM.out.drewN _, below_drewN HB.out _⟩
                          case measure => first | (simp [intOf]; done) | (simp [intOf]; omega)
                        · have t1 : (z == (jj : Int)) = false := by rw [beq_eq_false_iff_ne]; exact hm1
                          have hm2 : z + 1 = (jj : Int) := by have := HMI.out; omega
                          have t2 : (z + 1 == (jj : Int)) = true := by rw [beq_iff_eq]; exact hm2
                          clear hm1 hm2
                          go_wp2_with fail
                          go_quiet ((first | (go_at_call 10; exact Calls.quiet_of_same ((isPos_is jj _ (HM.out.drewN _) hlt HI).mono fun _ _ h => ⟨h.1, h.2.symm⟩)) | (go_at_call 11; exact Calls.quiet_of_same ((cap_is jj _ (HM.out.drewN _) hlt HC).mono fun _ _ h => ⟨h.1, h.2.symm⟩)) | (go_at_call 9; exact Calls.quiet_of_same ((mod31_any p _).mono fun _ _ h => ⟨h.1, h.2.symm⟩))))
                          go_wp2_with fail
                          go_roundw
                          case rel => exact ⟨jj + 1, by omega, by go_num, HM.out.drewN _, below_drewN HB.out _⟩
                          case measure => first | (simp [intOf]; done) | (simp [intOf]; omega)
                · go_wp2_with fail
                  go_ret
                  exact ⟨rfl, HB1b.out.trans (HB.out.mono (HGG.out ▸ HB1b.out.size))⟩
  · have tb : decide (ys.length ≤ 1048576 ∧ ys.length + os.length ≤ 1048576) = false := decide_eq_false hb
    go_enter Try.func5, Try.ntmps5
    go_wp2_with (go_at_call 12; refine (guard_any _ _ _ _ _ _ hlen hlen' _).mono ?_; rintro e w' ⟨rfl, rfl⟩)
    go_ret
    exact ⟨rfl, Below.refl _ _⟩

/-! ### THE ROW's STEP: WRITTEN OUT: LEAVE IT -/
set_option maxRecDepth 100000 in
theorem lifted (os : Os) (started : os.Started) (H : Type) (enc : TypeId × Value → H) :
    ReturnsInHanded {} Try.checked os 5 .any (Rows.fnAddPosCaptureScriptSpec.pre6 enc Try.prog Try.f5 Rows.fnAddPosCaptureScriptRow.domain false) (Rows.fnAddPosCaptureScriptSpec.post enc Try.prog Try.f5 false true false false) := by
  refine returnsInHanded_of_change (C := Try.checked) own started (by kernel_rfl) Try.func5
    (ChangeSpec.witness6 (enc := enc) (C := Try.checked) false ⟨#[], #[.slice none 0 0, .slice none 0 0], []⟩ 8 (by kernel_rfl) (by kernel_rfl) (by kernel_rfl) (by kernel_rfl)) ?_
  intro W base args ds gs before hval0 hW hcnd _
  have hval : ∀ (j : Nat) t v, Try.f5.params[j]? = some t → args[j]? = some v → Value.okWide Try.prog W .any base t v := hval0
  have hW' := hW
  obtain ⟨p, q, hA0, hV, rfl, hfz, hnd⟩ := hW
  have hA : DataW.TrodAll enc Try.prog W 0 (fun _ => true) true Try.f5.params.toList args.toList ds p := hA0
  rw [Try.params5] at hA hval
  obtain ⟨v0, vs0, d0, ds0, p0, q0, hargs, rfl, rfl, h0, r0⟩ := trodAll_cons hA
  obtain ⟨v1, vs1, d1, ds1, p1, q1, rfl, rfl, rfl, h1, r1⟩ := trodAll_cons r0
  obtain ⟨rfl, rfl, rfl⟩ := trodAll_nil r1
  obtain rfl : args = #[v0, v1] := by cases args; simp_all
  obtain ⟨rfl, rfl⟩ := trodVars_none hV
  obtain ⟨a0, len0, cap0, rfl⟩ := okWide_slice Try.underlying30 (hval 0 30 v0 rfl rfl)
  have k0 := h0
  have lt0 : ∀ x ∈ p0, x.block < W.heap.size := by obtain ⟨m, hm⟩ := k0; exact DataW.trod_lt m _ _ _ hm
  obtain ⟨z0, w0⟩ : ∃ zs, IsRow .i64 W a0 len0 cap0 zs := by
    obtain ⟨fuel, hf⟩ := h0
    rcases open_ints Try.underlying30 Try.underlying3 (by kernel_rfl) hf with ⟨hcs, _⟩ | ⟨x, l, c, zs, hcs, _, hl, hm, hz, _, hcell, hwz⟩
    · simp [Value.cells] at hcs
      obtain ⟨rfl, rfl, rfl⟩ := hcs
      exact ⟨[], .inl ⟨rfl, rfl, rfl, rfl⟩⟩
    · simp [Value.cells] at hcs
      obtain ⟨rfl, rfl, rfl⟩ := hcs
      exact ⟨zs, .inr ⟨_, rfl, hl, hm, by simpa using hz, hcell, hwz⟩⟩
  obtain ⟨a1, len1, cap1, rfl⟩ := okWide_slice Try.underlying30 (hval 1 30 v1 rfl rfl)
  have k1 := h1
  have lt1 : ∀ x ∈ p1, x.block < W.heap.size := by obtain ⟨m, hm⟩ := k1; exact DataW.trod_lt m _ _ _ hm
  obtain ⟨z1, w1⟩ : ∃ zs, IsRow .i64 W a1 len1 cap1 zs := by
    obtain ⟨fuel, hf⟩ := h1
    rcases open_ints Try.underlying30 Try.underlying3 (by kernel_rfl) hf with ⟨hcs, _⟩ | ⟨x, l, c, zs, hcs, _, hl, hm, hz, _, hcell, hwz⟩
    · simp [Value.cells] at hcs
      obtain ⟨rfl, rfl, rfl⟩ := hcs
      exact ⟨[], .inl ⟨rfl, rfl, rfl, rfl⟩⟩
    · simp [Value.cells] at hcs
      obtain ⟨rfl, rfl, rfl⟩ := hcs
      exact ⟨zs, .inr ⟨_, rfl, hl, hm, by simpa using hz, hcell, hwz⟩⟩
  clear hA0 hval0
  refine (walk a0 len0 cap0 z0 a1 len1 cap1 z1 W w0 w1).mono fun e W' ⟨he, bel⟩ => ?_
  subst he
  exact ⟨_, rfl, _, _, _, [], _, [], hW', trodAll_mk1 (shut_bool Try.underlying4 _), (trodAll_cons_mk (Below.trod laidOut (by kernel_rfl) (of_decide_eq_true (by kernel_rfl)) k0 bel lt0) (trodAll_cons_mk (Below.trod laidOut (by kernel_rfl) (of_decide_eq_true (by kernel_rfl)) k1 bel lt1) trodAll_mk0)), rfl, bel.frame _, fun h => by cases h⟩

theorem over : Rows.fnAddPosCaptureScriptRow.holds Try.pinned (OpenSpec.ofChange Rows.fnAddPosCaptureScriptSpec) :=
  OpenClaim.holds_of_wide 5 Try.f5 rfl rfl rfl rfl rfl rfl rfl ⟨rfl, rfl, rfl, rfl, rfl⟩ rfl rfl rfl rfl rfl (by kernel_rfl) Try.func5 (by kernel_rfl)
    (of_decide_eq_true (by kernel_rfl)) (by unfold Func.isWrapper; first | (rw [if_pos (by decide +kernel)]; kernel_rfl) | (rw [if_neg (by decide +kernel)]; exact ⟨rfl, rfl⟩))
    (fun os started H enc _ => lifted os started H enc)

/-- ████ THE STATEMENT ████ -/
theorem proved : Rows.FnAddPosCaptureScriptSaid := over
#print axioms proved
end Go.Proofs.Ytidgncgjjiigpaa.fnAddPosCaptureScript
