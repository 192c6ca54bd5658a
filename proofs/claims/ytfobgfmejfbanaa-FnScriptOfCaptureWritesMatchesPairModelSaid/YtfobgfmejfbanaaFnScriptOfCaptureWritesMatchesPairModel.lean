/-
  The given statement on FnScriptOfCaptureWritesMatchesPairModel: for every input the law returns true and leaves its arguments as they were. No condition beyond the statement's own.
  The frame was written by the kit's proof-skeleton.
-/
import Derived.Test.YtfobgfmejfbanaaHelp5c
import Derived.Deep.LoopGhost
import Derived.Test.YtfobgfmejfbanaaRows
import Derived.WalkKit
import Derived.ProofKit
import Derived.OpenShut
import Derived.ShutString
import Derived.ChangeOld
import Derived.Below
import Derived.Deep.Grids
namespace Go.Proofs.Ytfobgfmejfbanaa.fnScriptOfCaptureWritesMatchesPairModel
open Go.ChangeShapes Go.WideShapes Go.ChangeAt Go.RowKit
open Go.ChangeMaps (open_string shut_string)
set_option linter.unusedVariables false

theorem own : ownKnob Try.prog.godebug = none := by kernel_rfl
theorem laidOut : laidOutB Try.prog = true := by kernel_rfl

/-- WHAT THE WALK IS TOLD OF A SLICE OF INTEGERS THAT CAME IN: it is nil; or it leads to a row of 'cap' cells, the numbers 'zs' (the first 'len' are its elements, the rest its spare room), each fitting its kind. -/
def IsRow (k : IntKind) (w : World) (a : Option Addr) (len cap : Nat) (zs : List Int) : Prop :=
  (a = none ∧ len = 0 ∧ cap = 0 ∧ zs = []) ∨
  ∃ x, a = some x ∧ len ≤ cap ∧ cap ≤ maxLen ∧ zs.length = cap ∧ (∀ i, i < zs.length → w.cell? (x.add i) = some (.int k (zs.getD i 0))) ∧ ∀ n ∈ zs, (Lit.int k n).wf = true

/-- The like for a slice of bools. -/
def IsRowB (w : World) (a : Option Addr) (len cap : Nat) (z : Nat → Bool) : Prop :=
  (a = none ∧ len = 0 ∧ cap = 0) ∨ ∃ x, a = some x ∧ len ≤ cap ∧ cap ≤ maxLen ∧ ∀ i, i < cap → w.cell? (x.add i) = some (.bool (z i))
theorem isRowB_told {w : World} {a : Option Addr} {len cap : Nat} {z : Nat → Bool} (h : IsRowB w a len cap z) :
    ∃ bs : List Bool, bs.length = len ∧ RowB w a bs ∧ (a = none → bs.length = 0) ∧ len ≤ 9223372036854775807 := by
  rcases h with ⟨rfl, rfl, rfl⟩ | ⟨x, rfl, hl, hm, hcell⟩
  · exact ⟨[], rfl, fun h0 => absurd h0 (Nat.lt_irrefl _), fun _ => rfl, by omega⟩
  · refine ⟨(List.range len).map z, by simp, fun h0 => ?_, fun h0 => (by cases h0), by unfold maxLen at hm; omega⟩
    have h0' : 0 < len := by simpa using h0
    have hsp : x.spot = none := by simpa [Addr.add] using World.cell?_spot (hcell 0 (by omega))
    obtain ⟨b, off, spot⟩ := x
    simp only at hsp
    subst hsp
    refine ⟨b, off, rfl, fun i hi => ?_⟩
    have hi' : i < len := by simpa using hi
    have h1 := hcell i (by omega)
    rw [addr_add] at h1
    rw [h1, List.getD_eq_getElem?_getD, List.getElem?_map, List.getElem?_range hi']
    rfl

/-- What 'IsRow' says, over the elements alone. -/
theorem isRow_told {k : IntKind} {w : World} {a : Option Addr} {len cap : Nat} {zs : List Int} (h : IsRow k w a len cap zs) :
    ∃ ys : List Int, ys.length = len ∧ RowInt k w a ys ∧ (a = none → ys.length = 0) ∧ len ≤ 9223372036854775807 ∧ (∀ n, n ∈ ys → (Lit.int k n).wf = true) := by
  rcases h with ⟨rfl, rfl, rfl, rfl⟩ | ⟨x, rfl, hl, hm, hz, hcell, hwz⟩
  · exact ⟨[], rfl, fun h0 => absurd h0 (Nat.lt_irrefl _), fun _ => rfl, by omega, fun n hn => by simp at hn⟩
  · refine ⟨zs.take len, by simp; omega, fun h0 => ?_, fun h0 => (by cases h0), by unfold maxLen at hm; omega, fun n hn => hwz n (List.mem_of_mem_take hn)⟩
    have h0' : 0 < len := by simp at h0; omega
    have hsp : x.spot = none := by simpa [Addr.add] using World.cell?_spot (hcell 0 (by omega))
    obtain ⟨b, off, spot⟩ := x
    simp only at hsp
    subst hsp
    refine ⟨b, off, rfl, fun i hi => ?_⟩
    have h1 := hcell i (by simp at hi; omega)
    rw [addr_add] at h1
    rw [h1]
    simp only [List.length_take] at hi
    rw [List.getD_eq_getElem?_getD, List.getD_eq_getElem?_getD, List.getElem?_take_of_lt (by omega)]

set_option maxHeartbeats 8000000
set_option maxRecDepth 100000

/-! ### STEP 1: THE WALK: the Go text returns true, AND WRITES NOTHING THAT WAS THERE: 'Below w.heap.size w w'' (Derived/Below.lean: '.refl', '.alloc', '.drew', '.setCell' at a new block, '.trans'). Open each 'IsRow' by 'rcases' AHEAD of 'go_enter'; part every test ahead of the walk. -/
theorem walk (a0 : Option Addr) (len0 cap0 : Nat) (z0 : Nat → Bool) (a1 : Option Addr) (len1 cap1 : Nat) (z1 : List Int) (a2 : Option Addr) (len2 cap2 : Nat) (z2 : List Int) (w : World) (w0 : IsRowB w a0 len0 cap0 z0) (w1 : IsRow .i64 w a1 len1 cap1 z1) (w2 : IsRow .i64 w a2 len2 cap2 z2) :
    Calls Try.prog 6 #[.slice a0 len0 cap0, .slice a1 len1 cap1, .slice a2 len2 cap2] w fun e w' => e = .returned (.bool true) ∧ Below w.heap.size w w' := by
  obtain ⟨ks, rfl, hrk, hnk, hlk⟩ := isRowB_told w0
  obtain ⟨ss, rfl, hrs, hns, hls, -⟩ := isRow_told w1
  obtain ⟨ps, rfl, hrp, hnp, hlp, -⟩ := isRow_told w2
  have HRK := Lib.hid hrk
  have HNK := Lib.hid hnk
  have HRS := Lib.hid hrs
  have HNS := Lib.hid hns
  have HRP := Lib.hid hrp
  have HNP := Lib.hid hnp
  clear w0 w1 w2 hrk hnk hrs hns hrp hnp
  obtain ⟨ii, hii, hi0, hi1, hi2⟩ := info_parts int_info
  obtain ⟨ib, hib, hb0, hb1', hb2⟩ := info_parts bool_info
  by_cases hb : ks.length + ss.length + ps.length ≤ 1048576
  · have tb : decide (ks.length + ss.length + ps.length ≤ 1048576) = true := decide_eq_true hb
    go_enter Try.func6, Try.ntmps6
    go_wp2_with (go_at_call 23; refine (gP_any _ _ _ _ _ _ _ _ _ hlk hls hlp _).mono ?_; rintro e w' ⟨rfl, rfl⟩)
    refine (shape_any _ _ _ _ _ _ _ _ _ _ HRS.out hb).mono ?_
    rintro e w' ⟨v, rfl, rfl, hv⟩
    have HV := Lib.hid hv
    clear hv tb
    cases v with
    | true =>
      go_wp2_with fail
      go_ret
      exact ⟨rfl, Below.refl _ _⟩
    | false =>
      obtain ⟨b1, b2, b3, ha⟩ := HV.out rfl
      have HA := Lib.hid ha
      clear ha HV
      go_wp2_with fail
      refine (poss_any _ _ _ _ HRP.out (by omega)).mono ?_
      rintro e w' ⟨v, rfl, rfl, hv⟩
      have HV := Lib.hid hv
      clear hv
      cases v with
      | true =>
        go_wp2_with fail
        go_ret
        exact ⟨rfl, Below.refl _ _⟩
      | false =>
        have ha := HV.out rfl
        have HP := Lib.hid ha
        clear ha HV
        go_wp2_with fail
        refine (cpB_any a0 cap0 ks _ HRK.out HNK.out (by omega)).mono ?_
        rintro e w1 ⟨a0', c0', rfl, hn1, hf1, hr1, hb1⟩
        have HRK1 := Lib.hid hr1
        have HB1 := Lib.hid hb1
        have HRS1 := Lib.hid (HRS.out.below hb1 (Nat.le_refl _))
        have HRP1 := Lib.hid (HRP.out.below hb1 (Nat.le_refl _))
        clear hn1 hf1 hr1 hb1
        go_wp2_with fail
        refine (cpI_any a1 cap1 ss _ HRS1.out HNS.out (by omega)).mono ?_
        rintro e w2 ⟨a1', c1', rfl, hn1, hf1, hr1, hb1⟩
        have HRS2 := Lib.hid hr1
        have HB2 := Lib.hid (HB1.out.trans (hb1.mono HB1.out.size))
        have HRK2 := Lib.hid (HRK1.out.below hb1 (Nat.le_refl _))
        have HRP2 := Lib.hid (HRP1.out.below hb1 (Nat.le_refl _))
        clear hn1 hf1 hr1 hb1 HRK1 HRS1 HRP1 HB1
        go_wp2_with fail
        refine (cpI_any a2 cap2 ps _ HRP2.out HNP.out (by omega)).mono ?_
        rintro e w3 ⟨a2', c2', rfl, hn1, hf1, hr1, hb1⟩
        have HRP3 := Lib.hid hr1
        have HB3 := Lib.hid (HB2.out.trans (hb1.mono HB2.out.size))
        have HRK3 := Lib.hid (HRK2.out.below hb1 (Nat.le_refl _))
        have HRS3 := Lib.hid (HRS2.out.below hb1 (Nat.le_refl _))
        clear hn1 hf1 hr1 hb1 HRK2 HRS2 HRP2 HB2
        obtain ⟨n, hn⟩ : ∃ n, min ks.length (min ss.length ps.length) = n := ⟨_, rfl⟩
        have n1 : n ≤ ks.length := by omega
        have n2 : n ≤ ss.length := by omega
        have n3 : n ≤ ps.length := by omega
        have HN := Lib.hid hn
        clear hn
        go_wp2_with fail
        refine (minLen3_any ks.length ss.length ps.length (by omega) (by omega) (by omega) _).mono ?_
        rw [HN.out]
        rintro e w' ⟨rfl, rfl⟩
        go_wp2_with fail
        refine (zzNS_any _).mono ?_
        rintro e w4 ⟨rfl, hm4, hb4, hz4⟩
        have HM4 := Lib.hid hm4
        have HB4 := Lib.hid hb4
        clear hm4 hb4 hz4
        generalize hgg : w3.heap.size = B at *
        have HGG := Lib.hid hgg
        clear hgg
        have hB4 : B ≤ w4.heap.size := by have := HB4.out.size; have := HGG.out; omega
        have HT4 : Hid (Tri ((w4.alloc (.cells #[] 3)).alloc (.cells #[] 4)) B (B + 1) (some ⟨B, 0, none⟩) 0 [] (some ⟨w4.heap.size, 0, none⟩) 0 (some ⟨w4.heap.size + 1, 0, none⟩) 0 []) := by
          refine Lib.hid ⟨?_, by omega, fun g hg => by simp only [blkOf, Option.map_some, Option.some.injEq] at hg; omega, ?_, ?_⟩
          · have k0 := HM4.out.lt
            have kk : ∀ (x : World) (o : Obj), MD x (B + 1) (some ⟨B, 0, none⟩) 0 [] → MD (x.alloc o) (B + 1) (some ⟨B, 0, none⟩) 0 [] := fun x o h => h.kept (Below.heap_alloc _ _ _ h.lt) (fun g hg => Below.heap_alloc _ _ _ (h.row' g hg).2)
            exact kk _ _ (kk _ _ HM4.out)
          · exact (World.ownsRow_lit (e := 3) (size := 1) w4 #[] 0 hB4 (Nat.zero_le _) rfl).alloc _
          · have := World.ownsRow_lit (e := 4) (size := 1) (w4.alloc (.cells #[] 3)) #[] 0 (show B ≤ _ by simp; omega) (Nat.zero_le _) rfl
            rw [show (w4.alloc (Obj.cells #[] 3)).heap.size = w4.heap.size + 1 by simp] at this
            exact this
        have HB4' := Lib.hid ((HB4.out.alloc hB4 (.cells #[] 3)).alloc (by simp; omega) (.cells #[] 4))
        go_wp2_with fail
        go_loopw [9, 10, 11] (fun v f i wr => ∃ k : Nat, ∃ ao cap us va vc fa fc, k ≤ n ∧ i = .int .i64 k ∧ v = .slice va us.length vc ∧ f = .slice fa us.length fc ∧ us.length ≤ 4098 ∧ Tri wr B (B + 1) ao cap us va vc fa fc us ∧ Below B w3 wr) (fun _ _ i _ => n - (intOf i).toNat)
        case atStart => exact ⟨0, _, _, [], _, _, _, _, Nat.zero_le _, rfl, rfl, rfl, by simp, HT4.out, HB4'.out⟩
        case round =>
          obtain ⟨k, ao, cap, us, va, vc, fa, fc, hk, rfl, rfl, rfl, hu, ht, hbel⟩ := hrel
          have HT := Lib.hid ht
          have HB := Lib.hid hbel
          have hszr : B ≤ wr.heap.size := by have := hbel.size; have := HGG.out; omega
          clear ht hbel
          by_cases hlt : k < n
          · obtain ⟨kb, ko, rfl, hkc⟩ := (HRK3.out.below HB.out (by rw [HGG.out]; exact Nat.le_refl _)).at (i := k) (by omega)
            obtain ⟨sb, so, rfl, hsc⟩ := (HRS3.out.below HB.out (by rw [HGG.out]; exact Nat.le_refl _)).at (i := k) (by omega)
            obtain ⟨pb, po, rfl, hpc⟩ := (HRP3.out.below HB.out (by rw [HGG.out]; exact Nat.le_refl _)).at (i := k) (by omega)
            obtain ⟨kv, hkv⟩ : ∃ v, ks.getD k false = v := ⟨_, rfl⟩
            obtain ⟨p, hp⟩ : ∃ v, ps.getD k 0 = v := ⟨_, rfl⟩
            have hp0 := HP.out k (by omega)
            have hs0 := HA.out k (by omega)
            obtain ⟨s, hs⟩ : ∃ s : Nat, ss.getD k 0 = (s : Int) := ⟨(ss.getD k 0).toNat, by omega⟩
            rw [hkv] at hkc
            rw [hp] at hpc hp0
            rw [hs] at hsc hs0
            have hs1 : s ≤ 4096 := by omega
            have hp1 : 0 ≤ p := hp0.1
            have hp2 : p ≤ 2147483647 := hp0.2
            clear hkv hp hs hs0 hp0
            have ki1 : (k : Int) < (ks.length : Int) := by omega
            have ki2 : (k : Int) < (ss.length : Int) := by omega
            have ki3 : (k : Int) < (ps.length : Int) := by omega
            cases kv with
            | true =>
              obtain ⟨us', hus⟩ : ∃ l, ((ext us (s + 2)).set s (posW p)).set (s + 1) (posW p) = l := ⟨_, rfl⟩
              have HUS := Lib.hid hus
              clear hus
              go_wp2_with fail
              refine (zzAdd_is p HT.out.md (by omega) HUS).mono ?_
              rintro e w5 ⟨rfl, ao5, cap5, hm5, hv5⟩
              have HT5 := Lib.hid (HT.out.moved hm5 hv5 hszr)
              have HB5 := Lib.hid (HB.out.trans (hv5.below (B := B) (by omega) HT.out.hr hszr))
              clear hm5 hv5
              go_wp2_with fail
              go_loopg [9, 10] ((s + 2) - us.length) (fun q v f wx => ∃ va vc fa fc vs, q = (s + 2) - vs.length ∧ v = .slice va vs.length vc ∧ f = .slice fa vs.length fc ∧ us.length ≤ vs.length ∧ vs.length ≤ 4098 ∧ ext vs ((s + 2)) = ext us ((s + 2)) ∧ Tri wx B (B + 1) ao5 cap5 us' va vc fa fc vs ∧ Below B w3 wx)
              case atStart => exact ⟨va, vc, fa, fc, us, rfl, rfl, rfl, Nat.le_refl _, by omega, rfl, HT5.out, HB5.out⟩
              case round =>
                obtain ⟨va, vc, fa, fc, vs, rfl, rfl, rfl, hle, hvl, hex, ht, hbx⟩ := hrel
                have HX := Lib.hid hex
                have HT := Lib.hid ht
                have HBX := Lib.hid hbx
                have hszx : B ≤ wr.heap.size := by have := hbx.size; have := HGG.out; omega
                clear hex ht hbx
                by_cases hin : vs.length < (s + 2)
                · have HA1 := Lib.hid (HT.out.vo.alloc (.cells #[.int .i64 0] 3))
                  go_wp2_with (first | (at_builtin; refine wpList_push _ rfl (.tmp 70) (.tmp 71) 35 rfl B 3 ii (.int .i64 0) 1 8 Try.underlying35 hii hi0 hi1 hi2 rfl (by decide) _ _ _ _ rfl HA1.out ⟨wr.heap.size, 0, none⟩ 1 1 [.int .i64 0] rfl rfl (cell_one_new _ _ _) (fun u hu => by simp at hu; subst hu; rfl) (by decide) (by unfold maxLen; omega) (by omega) (by simp; omega) ?_; intro g1 c1 wy hown1 hgrow1 hwhere1; have HO1 := Lib.hid hown1; have HG1 := Lib.hid hgrow1; have HK1 := Lib.hid ((HT.out.alloc (.cells #[.int .i64 0] 3)).kept_v (row := none) hgrow1); have HA2 := Lib.hid (HK1.out.2.alloc (.cells #[.bool false] 4)); have hszy : B ≤ wy.heap.size := Nat.le_trans hszx (Nat.le_trans (by simp) hgrow1.size); clear hown1 hgrow1 hwhere1) | (at_builtin; refine wpList_push _ rfl (.tmp 73) (.tmp 74) 34 rfl B 4 ib (.bool false) 1 1 Try.underlying34 hib hb0 hb1' hb2 rfl (by decide) _ _ _ _ rfl HA2.out ⟨wy.heap.size, 0, none⟩ 1 1 [.bool false] rfl rfl (cell_one_new _ _ _) (fun u hu => by simp at hu; subst hu; rfl) (by decide) (by unfold maxLen; omega) (by omega) (by simp; omega) ?_; intro g2 c2 wz hown2 hgrow2 hwhere2; have HO2 := Lib.hid hown2; have HG2 := Lib.hid hgrow2; clear hown2 hgrow2 hwhere2))
                  go_roundg ((s + 2) - (vs ++ [(0 : Int)]).length)
                  case measure => simp; omega
                  case rel => exact ⟨some ⟨g1, 0, none⟩, c1, some ⟨g2, 0, none⟩, c2, vs ++ [0], rfl, by simp, by simp, by simp; omega, by simp; omega, (ext_snoc hin).trans HX.out, HT.out.push HG1.out HO1.out HG2.out HO2.out, (HBX.out.trans (grown_below HG1.out (fun g hg => (HT.out.below.1 g hg).1) hszx)).trans (grown_below HG2.out (fun g hg => (HT.out.below.2 g hg).1) hszy)⟩
                · have hvs : vs = ext us ((s + 2)) := by rw [← HX.out, ext_same (by omega)]
                  obtain ⟨gv, gf, rfl, rfl⟩ := HT.out.heads (by omega)
                  have HVS := Lib.hid hvs
                  clear hvs HX
                  have hll : vs.length = max us.length (s + 2) := by rw [HVS.out]; rw [length_ext]
                  have hv1 := posW_val p
                  have hv2 := posW_flag p
                  rw [show p % 2147483648 = p by omega] at hv1
                  have C1 := HT.out.cells (i := s) (by omega)
                  have C2 := HT.out.cells (i := s + 1) (by omega)
                  have HS1 := Lib.hid (HT.out.store s (posW p) hv1 hv2)
                  have HS2 := Lib.hid (HS1.out.store (s + 1) (posW p) hv1 hv2)
                  have hgne := (HT.out.apart.1 gv rfl).2.2
                  have hgne' : ¬ gv = gf := fun e => hgne (by rw [e]; rfl)
                  have hgne2 : ¬ gf = gv := fun e => hgne' e.symm
                  have HSET : Hid ((vs.set s (posW p)).set (s + 1) (posW p) = us') := by rw [HVS.out]; exact HUS
                  have h1 : (s : Int) < (vs.length : Int) := by omega
                  have h2 : (s : Int) + 1 < (vs.length : Int) := by omega
                  obtain ⟨x1, hx1⟩ : ∃ x, vs.getD s 0 / 2 = x := ⟨_, rfl⟩
                  obtain ⟨x2, hx2⟩ : ∃ x, (vs.getD s 0 % 2 == 1) = x := ⟨_, rfl⟩
                  obtain ⟨y1, hy1⟩ : ∃ x, vs.getD (s + 1) 0 / 2 = x := ⟨_, rfl⟩
                  obtain ⟨y2, hy2⟩ : ∃ x, (vs.getD (s + 1) 0 % 2 == 1) = x := ⟨_, rfl⟩
                  rw [hx1, hx2] at C1
                  rw [hy1, hy2] at C2
                  obtain ⟨c11, c12, c13, c14⟩ := C1
                  obtain ⟨c21, c22, c23, c24⟩ := C2
                  clear hx1 hx2 hy1 hy2 hgne hv1 hv2
                  have HLL := Lib.hid hll
                  clear hll
                  go_wp2_with fail
                  go_roundw
                  case rel =>
                    have hl' : us'.length = max us.length (s + 2) := by rw [← HSET.out, List.length_set, List.length_set]; exact HLL.out
                    have hT := HS2.out
                    rw [HSET.out] at hT
                    refine ⟨k + 1, ao5, cap5, us', some ⟨gv, 0, none⟩, vc, some ⟨gf, 0, none⟩, fc, by omega, by go_num, by rw [hl', HLL.out], by rw [hl', HLL.out], by omega, hT, ?_⟩
                    have e1 := (HT.out.below.1 gv rfl).1
                    have e2 := (HT.out.below.2 gf rfl).1
                    exact (((HBX.out.setCell e1 _).setCell e2 _).setCell e1 _).setCell e2 _
                  case measure => simp [intOf]; omega
            | false =>
              obtain ⟨us', hus⟩ : ∃ l, (ext us (s + 1)).set s (capW p) = l := ⟨_, rfl⟩
              have HUS := Lib.hid hus
              clear hus
              have HT5 := Lib.hid HT.out
              have HB5 := Lib.hid HB.out
              go_wp2_with fail
              go_loopg [9, 10] ((s + 1) - us.length) (fun q v f wx => ∃ va vc fa fc vs, q = (s + 1) - vs.length ∧ v = .slice va vs.length vc ∧ f = .slice fa vs.length fc ∧ us.length ≤ vs.length ∧ vs.length ≤ 4098 ∧ ext vs ((s + 1)) = ext us ((s + 1)) ∧ Tri wx B (B + 1) ao cap us va vc fa fc vs ∧ Below B w3 wx)
              case atStart => exact ⟨va, vc, fa, fc, us, rfl, rfl, rfl, Nat.le_refl _, by omega, rfl, HT5.out, HB5.out⟩
              case round =>
                obtain ⟨va, vc, fa, fc, vs, rfl, rfl, rfl, hle, hvl, hex, ht, hbx⟩ := hrel
                have HX := Lib.hid hex
                have HT := Lib.hid ht
                have HBX := Lib.hid hbx
                have hszx : B ≤ wr.heap.size := by have := hbx.size; have := HGG.out; omega
                clear hex ht hbx
                by_cases hin : vs.length < (s + 1)
                · have HA1 := Lib.hid (HT.out.vo.alloc (.cells #[.int .i64 0] 3))
                  go_wp2_with (first | (at_builtin; refine wpList_push _ rfl (.tmp 97) (.tmp 98) 35 rfl B 3 ii (.int .i64 0) 1 8 Try.underlying35 hii hi0 hi1 hi2 rfl (by decide) _ _ _ _ rfl HA1.out ⟨wr.heap.size, 0, none⟩ 1 1 [.int .i64 0] rfl rfl (cell_one_new _ _ _) (fun u hu => by simp at hu; subst hu; rfl) (by decide) (by unfold maxLen; omega) (by omega) (by simp; omega) ?_; intro g1 c1 wy hown1 hgrow1 hwhere1; have HO1 := Lib.hid hown1; have HG1 := Lib.hid hgrow1; have HK1 := Lib.hid ((HT.out.alloc (.cells #[.int .i64 0] 3)).kept_v (row := none) hgrow1); have HA2 := Lib.hid (HK1.out.2.alloc (.cells #[.bool false] 4)); have hszy : B ≤ wy.heap.size := Nat.le_trans hszx (Nat.le_trans (by simp) hgrow1.size); clear hown1 hgrow1 hwhere1) | (at_builtin; refine wpList_push _ rfl (.tmp 100) (.tmp 101) 34 rfl B 4 ib (.bool false) 1 1 Try.underlying34 hib hb0 hb1' hb2 rfl (by decide) _ _ _ _ rfl HA2.out ⟨wy.heap.size, 0, none⟩ 1 1 [.bool false] rfl rfl (cell_one_new _ _ _) (fun u hu => by simp at hu; subst hu; rfl) (by decide) (by unfold maxLen; omega) (by omega) (by simp; omega) ?_; intro g2 c2 wz hown2 hgrow2 hwhere2; have HO2 := Lib.hid hown2; have HG2 := Lib.hid hgrow2; clear hown2 hgrow2 hwhere2))
                  go_roundg ((s + 1) - (vs ++ [(0 : Int)]).length)
                  case measure => simp; omega
                  case rel => exact ⟨some ⟨g1, 0, none⟩, c1, some ⟨g2, 0, none⟩, c2, vs ++ [0], rfl, by simp, by simp, by simp; omega, by simp; omega, (ext_snoc hin).trans HX.out, HT.out.push HG1.out HO1.out HG2.out HO2.out, (HBX.out.trans (grown_below HG1.out (fun g hg => (HT.out.below.1 g hg).1) hszx)).trans (grown_below HG2.out (fun g hg => (HT.out.below.2 g hg).1) hszy)⟩
                · have hvs : vs = ext us ((s + 1)) := by rw [← HX.out, ext_same (by omega)]
                  obtain ⟨gv, gf, rfl, rfl⟩ := HT.out.heads (by omega)
                  have HVS := Lib.hid hvs
                  clear hvs HX
                  have hll : vs.length = max us.length (s + 1) := by rw [HVS.out]; rw [length_ext]
                  have hv1 := capW_val p
                  have hv2 := capW_flag p
                  rw [show p % 2147483648 = p by omega] at hv1
                  have C1 := HT.out.cells (i := s) (by omega)
                  have HSET : Hid (vs.set s (capW p) = us') := by rw [HVS.out]; exact HUS
                  have h1 : (s : Int) < (vs.length : Int) := by omega
                  obtain ⟨u, hu0⟩ : ∃ u, vs.getD s 0 = u := ⟨_, rfl⟩
                  have hub : 0 ≤ u ∧ u < 4294967296 := by
                    rw [← hu0, HVS.out, getD_ext]; exact HT.out.md.word s
                  have HU0 : Hid ((ext us (s + 1)).getD s 0 = u) := by rw [← HVS.out]; exact Lib.hid hu0
                  obtain ⟨x1, hx1⟩ : ∃ x, u / 2 = x := ⟨_, rfl⟩
                  have hxb1 : 0 ≤ x1 := by omega
                  have hxb2 : x1 ≤ 2147483647 := by omega
                  have hgne := (HT.out.apart.1 gv rfl).2.2
                  have hgne' : ¬ gv = gf := fun e => hgne (by rw [e]; rfl)
                  have hgne2 : ¬ gf = gv := fun e => hgne' e.symm
                  clear hgne
                  rw [hu0, hx1] at C1
                  obtain ⟨c11, c12, c13, c14⟩ := C1
                  have HX1 := Lib.hid hx1
                  have HLL := Lib.hid hll
                  have HUB := Lib.hid hub
                  clear hx1 hu0 hll hub
                  have hways : u = x1 * 2 ∧ (u % 2 == 1) = false ∨ u = x1 * 2 + 1 ∧ (u % 2 == 1) = true := by
                    have := HX1.out
                    rcases (show u % 2 = 0 ∨ u % 2 = 1 by omega) with h | h
                    · exact .inl ⟨by omega, by rw [h]; rfl⟩
                    · exact .inr ⟨by omega, by rw [h]; rfl⟩
                  have HV1 := Lib.hid hv1
                  have HV2 := Lib.hid hv2
                  clear hv1 hv2
                  rcases hways with ⟨hw1, hw2⟩ | ⟨hw1, hw2⟩
                  all_goals
                    rw [hw2] at c12
                    have HU1 := HU0.out
                    rw [hw1] at HU1
                    have HU2 := Lib.hid HU1
                    clear hw1 hw2 HU1
                    go_wp2_with fail
                    refine (zzSet_is p HT.out.md (by omega) HU2 HUS).mono ?_
                    rintro e w6 ⟨rfl, ao6, cap6, hm6, hv6⟩
                    have HT6 := Lib.hid (HT.out.moved hm6 hv6 hszx)
                    have HB6 := Lib.hid (HBX.out.trans (hv6.below (B := B) (by omega) HT.out.hr hszx))
                    clear hm6 hv6 c11 c12 c13 c14
                    have C1 := HT6.out.cells (i := s) (by omega)
                    obtain ⟨y1, hy1⟩ : ∃ x, vs.getD s 0 / 2 = x := ⟨_, rfl⟩
                    obtain ⟨y2, hy2⟩ : ∃ x, (vs.getD s 0 % 2 == 1) = x := ⟨_, rfl⟩
                    rw [hy1, hy2] at C1
                    obtain ⟨c11, c12, c13, c14⟩ := C1
                    clear hy1 hy2
                    have HS1 := Lib.hid (HT6.out.store s (capW p) HV1.out HV2.out)
                    go_wp2_with fail
                    go_roundw
                    case rel =>
                      have hl' : us'.length = max us.length (s + 1) := by rw [← HSET.out, List.length_set]; exact HLL.out
                      have hT := HS1.out
                      rw [HSET.out] at hT
                      refine ⟨k + 1, ao6, cap6, us', some ⟨gv, 0, none⟩, vc, some ⟨gf, 0, none⟩, fc, by omega, by go_num, by rw [hl', HLL.out], by rw [hl', HLL.out], by omega, hT, ?_⟩
                      have e1 := (HT.out.below.1 gv rfl).1
                      have e2 := (HT.out.below.2 gf rfl).1
                      exact (HB6.out.setCell e1 _).setCell e2 _
                    case measure => simp [intOf]; omega
          · go_wp2_with fail
            refine (capLen_any HT.out.md).mono ?_
            rintro e w' ⟨rfl, rfl⟩
            go_wp2_with fail
            go_loopw [16] (fun i wx => ∃ k : Nat, k ≤ us.length ∧ i = .int .i64 k ∧ Tri wx B (B + 1) ao cap us va vc fa fc us ∧ Below B w3 wx) (fun i _ => us.length - (intOf i).toNat)
            case atStart => exact ⟨0, Nat.zero_le _, rfl, HT.out, HB.out⟩
            case round =>
              obtain ⟨k, hk, rfl, ht7, hb7⟩ := hrel
              have HT7 := Lib.hid ht7
              have HB7 := Lib.hid hb7
              clear ht7 hb7
              by_cases hlt3 : k < us.length
              · obtain ⟨gv, gf, rfl, rfl⟩ := HT7.out.heads (by omega)
                have C1 := HT7.out.cells (i := k) (by omega)
                obtain ⟨x1, hx1⟩ : ∃ x, us.getD k 0 / 2 = x := ⟨_, rfl⟩
                obtain ⟨x2, hx2⟩ : ∃ x, (us.getD k 0 % 2 == 1) = x := ⟨_, rfl⟩
                rw [hx1, hx2] at C1
                obtain ⟨c11, c12, -, -⟩ := C1
                have X1 := Lib.hid hx1
                have X2 := Lib.hid hx2
                clear hx1 hx2
                have k1 : (k : Int) < (us.length : Int) := by omega
                go_wp2_with fail
                go_quiet ((go_at_call 11; exact Calls.quiet_of_same ((cap_is k _ (HT7.out.md.drewN _) hlt3 X1).mono fun _ _ h => ⟨h.1, h.2.symm⟩)))
                go_wp2_with fail
                generalize hwd : World.drewN wr _ = wd
                have HT8 : Hid (Tri wd B (B + 1) ao cap us (some ⟨gv, 0, none⟩) vc (some ⟨gf, 0, none⟩) fc us) := by
                  subst hwd
                  exact Lib.hid ⟨HT7.out.md.drewN _, HT7.out.hm, HT7.out.hr, HT7.out.vo, HT7.out.fo⟩
                have HB8 : Hid (Below B w3 wd) := by subst hwd; exact Lib.hid (below_drewN HB7.out _)
                clear hwd
                have C8 := HT8.out.cells (i := k) (by omega)
                have X1' := X1.out
                have X2' := X2.out
                rw [X1', X2'] at C8
                obtain ⟨c81, c82, -, -⟩ := C8
                clear X1' X2'
                go_quiet ((go_at_call 12; exact Calls.quiet_of_same ((isPos_is k _ (HT8.out.md.drewN _) hlt3 X2).mono fun _ _ h => ⟨h.1, h.2.symm⟩)))
                go_wp2_with fail
                go_roundw
                case rel => exact ⟨k + 1, by omega, by go_num, ⟨HT8.out.md.drewN _, HT8.out.hm, HT8.out.hr, HT8.out.vo, HT8.out.fo⟩, below_drewN HB8.out _⟩
                case measure => simp [intOf]; omega
              · go_wp2_with fail
                go_ret
                exact ⟨rfl, HB3.out.trans (HB7.out.mono (by have := HB3.out.size; have := HGG.out; omega))⟩
  · have tb : decide (ks.length + ss.length + ps.length ≤ 1048576) = false := decide_eq_false hb
    go_enter Try.func6, Try.ntmps6
    go_wp2_with (go_at_call 23; refine (gP_any _ _ _ _ _ _ _ _ _ hlk hls hlp _).mono ?_; rintro e w' ⟨rfl, rfl⟩)
    go_ret
    exact ⟨rfl, Below.refl _ _⟩

/-! ### THE ROW's STEP: WRITTEN OUT: LEAVE IT -/
set_option maxRecDepth 100000 in
theorem lifted (os : Os) (started : os.Started) (H : Type) (enc : TypeId × Value → H) :
    ReturnsInHanded {} Try.checked os 6 .any (Rows.fnScriptOfCaptureWritesMatchesPairModelSpec.pre6 enc Try.prog Try.f6 Rows.fnScriptOfCaptureWritesMatchesPairModelRow.domain false) (Rows.fnScriptOfCaptureWritesMatchesPairModelSpec.post enc Try.prog Try.f6 false true false false) := by
  refine returnsInHanded_of_change (C := Try.checked) own started (by kernel_rfl) Try.func6
    (ChangeSpec.witness6 (enc := enc) (C := Try.checked) false ⟨#[], #[.slice none 0 0, .slice none 0 0, .slice none 0 0], []⟩ 8 (by kernel_rfl) (by kernel_rfl) (by kernel_rfl) (by kernel_rfl)) ?_
  intro W base args ds gs before hval0 hW hcnd _
  have hval : ∀ (j : Nat) t v, Try.f6.params[j]? = some t → args[j]? = some v → Value.okWide Try.prog W .any base t v := hval0
  have hW' := hW
  obtain ⟨p, q, hA0, hV, rfl, hfz, hnd⟩ := hW
  have hA : DataW.TrodAll enc Try.prog W 0 (fun _ => true) true Try.f6.params.toList args.toList ds p := hA0
  rw [Try.params6] at hA hval
  obtain ⟨v0, vs0, d0, ds0, p0, q0, hargs, rfl, rfl, h0, r0⟩ := trodAll_cons hA
  obtain ⟨v1, vs1, d1, ds1, p1, q1, rfl, rfl, rfl, h1, r1⟩ := trodAll_cons r0
  obtain ⟨v2, vs2, d2, ds2, p2, q2, rfl, rfl, rfl, h2, r2⟩ := trodAll_cons r1
  obtain ⟨rfl, rfl, rfl⟩ := trodAll_nil r2
  obtain rfl : args = #[v0, v1, v2] := by cases args; simp_all
  obtain ⟨rfl, rfl⟩ := trodVars_none hV
  obtain ⟨a0, len0, cap0, rfl⟩ := okWide_slice Try.underlying34 (hval 0 34 v0 rfl rfl)
  have k0 := h0
  have lt0 : ∀ x ∈ p0, x.block < W.heap.size := by obtain ⟨m, hm⟩ := k0; exact DataW.trod_lt m _ _ _ hm
  obtain ⟨z0, w0⟩ : ∃ zs, IsRowB W a0 len0 cap0 zs := by
    obtain ⟨fuel, hf⟩ := h0
    rcases Go.Deep.open_bools Try.underlying34 Try.underlying4 (by kernel_rfl) hf with ⟨hcs, _⟩ | ⟨x, l, c, B, hcs, _, hl, hm, _, hcell⟩
    · simp [Value.cells] at hcs
      obtain ⟨rfl, rfl, rfl⟩ := hcs
      exact ⟨fun _ => false, .inl ⟨rfl, rfl, rfl⟩⟩
    · simp [Value.cells] at hcs
      obtain ⟨rfl, rfl, rfl⟩ := hcs
      exact ⟨B, .inr ⟨_, rfl, hl, hm, hcell⟩⟩
  obtain ⟨a1, len1, cap1, rfl⟩ := okWide_slice Try.underlying35 (hval 1 35 v1 rfl rfl)
  have k1 := h1
  have lt1 : ∀ x ∈ p1, x.block < W.heap.size := by obtain ⟨m, hm⟩ := k1; exact DataW.trod_lt m _ _ _ hm
  obtain ⟨z1, w1⟩ : ∃ zs, IsRow .i64 W a1 len1 cap1 zs := by
    obtain ⟨fuel, hf⟩ := h1
    rcases open_ints Try.underlying35 Try.underlying3 (by kernel_rfl) hf with ⟨hcs, _⟩ | ⟨x, l, c, zs, hcs, _, hl, hm, hz, _, hcell, hwz⟩
    · simp [Value.cells] at hcs
      obtain ⟨rfl, rfl, rfl⟩ := hcs
      exact ⟨[], .inl ⟨rfl, rfl, rfl, rfl⟩⟩
    · simp [Value.cells] at hcs
      obtain ⟨rfl, rfl, rfl⟩ := hcs
      exact ⟨zs, .inr ⟨_, rfl, hl, hm, by simpa using hz, hcell, hwz⟩⟩
  obtain ⟨a2, len2, cap2, rfl⟩ := okWide_slice Try.underlying35 (hval 2 35 v2 rfl rfl)
  have k2 := h2
  have lt2 : ∀ x ∈ p2, x.block < W.heap.size := by obtain ⟨m, hm⟩ := k2; exact DataW.trod_lt m _ _ _ hm
  obtain ⟨z2, w2⟩ : ∃ zs, IsRow .i64 W a2 len2 cap2 zs := by
    obtain ⟨fuel, hf⟩ := h2
    rcases open_ints Try.underlying35 Try.underlying3 (by kernel_rfl) hf with ⟨hcs, _⟩ | ⟨x, l, c, zs, hcs, _, hl, hm, hz, _, hcell, hwz⟩
    · simp [Value.cells] at hcs
      obtain ⟨rfl, rfl, rfl⟩ := hcs
      exact ⟨[], .inl ⟨rfl, rfl, rfl, rfl⟩⟩
    · simp [Value.cells] at hcs
      obtain ⟨rfl, rfl, rfl⟩ := hcs
      exact ⟨zs, .inr ⟨_, rfl, hl, hm, by simpa using hz, hcell, hwz⟩⟩
  clear hA0 hval0
  refine (walk a0 len0 cap0 z0 a1 len1 cap1 z1 a2 len2 cap2 z2 W w0 w1 w2).mono fun e W' ⟨he, bel⟩ => ?_
  subst he
  exact ⟨_, rfl, _, _, _, [], _, [], hW', trodAll_mk1 (shut_bool Try.underlying4 _), (trodAll_cons_mk (Below.trod laidOut (by kernel_rfl) (of_decide_eq_true (by kernel_rfl)) k0 bel lt0) (trodAll_cons_mk (Below.trod laidOut (by kernel_rfl) (of_decide_eq_true (by kernel_rfl)) k1 bel lt1) (trodAll_cons_mk (Below.trod laidOut (by kernel_rfl) (of_decide_eq_true (by kernel_rfl)) k2 bel lt2) trodAll_mk0))), rfl, bel.frame _, fun h => by cases h⟩

theorem over : Rows.fnScriptOfCaptureWritesMatchesPairModelRow.holds Try.pinned (OpenSpec.ofChange Rows.fnScriptOfCaptureWritesMatchesPairModelSpec) :=
  OpenClaim.holds_of_wide 6 Try.f6 rfl rfl rfl rfl rfl rfl rfl ⟨rfl, rfl, rfl, rfl, rfl⟩ rfl rfl rfl rfl rfl (by kernel_rfl) Try.func6 (by kernel_rfl)
    (of_decide_eq_true (by kernel_rfl)) (by unfold Func.isWrapper; first | (rw [if_pos (by decide +kernel)]; kernel_rfl) | (rw [if_neg (by decide +kernel)]; exact ⟨rfl, rfl⟩))
    (fun os started H enc _ => lifted os started H enc)

/-- ████ THE STATEMENT ████ -/
theorem proved : Rows.FnScriptOfCaptureWritesMatchesPairModelSaid := over
#print axioms proved
end Go.Proofs.Ytfobgfmejfbanaa.fnScriptOfCaptureWritesMatchesPairModel
