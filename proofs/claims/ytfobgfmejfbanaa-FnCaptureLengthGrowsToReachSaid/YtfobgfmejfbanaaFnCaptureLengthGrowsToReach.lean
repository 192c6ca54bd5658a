/-
  The given statement on FnCaptureLengthGrowsToReach: for every input the law returns true and leaves its arguments as they were. No condition beyond the statement's own.
  The frame was written by the kit's proof-skeleton.
-/
import Derived.Test.YtfobgfmejfbanaaHelp5b
import Derived.Test.YtfobgfmejfbanaaRows
import Derived.WalkKit
import Derived.ProofKit
import Derived.OpenShut
import Derived.ShutString
import Derived.ChangeOld
import Derived.Below
import Derived.Deep.Grids
namespace Go.Proofs.Ytfobgfmejfbanaa.fnCaptureLengthGrowsToReach
open Go.ChangeShapes Go.WideShapes Go.ChangeAt Go.RowKit
open Go.ChangeMaps (open_string shut_string)
set_option linter.unusedVariables false

theorem own : ownKnob Try.prog.godebug = none := by kernel_rfl
theorem laidOut : laidOutB Try.prog = true := by kernel_rfl

/-- WHAT THE WALK IS TOLD OF A SLICE OF INTEGERS THAT CAME IN: it is nil; or it leads to a row of 'cap' cells, the numbers 'zs' (the first 'len' are its elements, the rest its spare room), each fitting its kind. -/
def IsRow (k : IntKind) (w : World) (a : Option Addr) (len cap : Nat) (zs : List Int) : Prop :=
  (a = none ∧ len = 0 ∧ cap = 0 ∧ zs = []) ∨
  ∃ x, a = some x ∧ len ≤ cap ∧ cap ≤ maxLen ∧ zs.length = cap ∧ (∀ i, i < zs.length → w.cell? (x.add i) = some (.int k (zs.getD i 0))) ∧ ∀ n ∈ zs, (Lit.int k n).wf = true

/-- The like for a slice of bools. -/
def IsRowB (w : World) (a : Option Addr) (len cap : Nat) (z : Nat → Bool) : Prop :=
  (a = none ∧ len = 0 ∧ cap = 0) ∨ ∃ x, a = some x ∧ len ≤ cap ∧ cap ≤ maxLen ∧ ∀ i, i < cap → w.cell? (x.add i) = some (.bool (z i))
theorem isRowB_told {w : World} {a : Option Addr} {len cap : Nat} {z : Nat → Bool} (h : IsRowB w a len cap z) :
    ∃ bs : List Bool, bs.length = len ∧ RowB w a bs ∧ (a = none → bs.length = 0) ∧ len ≤ 9223372036854775807 := by
  rcases h with ⟨rfl, rfl, rfl⟩ | ⟨x, rfl, hl, hm, hcell⟩
  · exact ⟨[], rfl, fun h0 => absurd h0 (Nat.lt_irrefl _), fun _ => rfl, by omega⟩
  · refine ⟨(List.range len).map z, by simp, fun h0 => ?_, fun h0 => (by cases h0), by unfold maxLen at hm; omega⟩
    have h0' : 0 < len := by simpa using h0
    have hsp : x.spot = none := by simpa [Addr.add] using World.cell?_spot (hcell 0 (by omega))
    obtain ⟨b, off, spot⟩ := x
    simp only at hsp
    subst hsp
    refine ⟨b, off, rfl, fun i hi => ?_⟩
    have hi' : i < len := by simpa using hi
    have h1 := hcell i (by omega)
    rw [addr_add] at h1
    rw [h1, List.getD_eq_getElem?_getD, List.getElem?_map, List.getElem?_range hi']
    rfl

/-- What 'IsRow' says, over the elements alone. -/
theorem isRow_told {k : IntKind} {w : World} {a : Option Addr} {len cap : Nat} {zs : List Int} (h : IsRow k w a len cap zs) :
    ∃ ys : List Int, ys.length = len ∧ RowInt k w a ys ∧ (a = none → ys.length = 0) ∧ len ≤ 9223372036854775807 ∧ (∀ n, n ∈ ys → (Lit.int k n).wf = true) := by
  rcases h with ⟨rfl, rfl, rfl, rfl⟩ | ⟨x, rfl, hl, hm, hz, hcell, hwz⟩
  · exact ⟨[], rfl, fun h0 => absurd h0 (Nat.lt_irrefl _), fun _ => rfl, by omega, fun n hn => by simp at hn⟩
  · refine ⟨zs.take len, by simp; omega, fun h0 => ?_, fun h0 => (by cases h0), by unfold maxLen at hm; omega, fun n hn => hwz n (List.mem_of_mem_take hn)⟩
    have h0' : 0 < len := by simp at h0; omega
    have hsp : x.spot = none := by simpa [Addr.add] using World.cell?_spot (hcell 0 (by omega))
    obtain ⟨b, off, spot⟩ := x
    simp only at hsp
    subst hsp
    refine ⟨b, off, rfl, fun i hi => ?_⟩
    have h1 := hcell i (by simp at hi; omega)
    rw [addr_add] at h1
    rw [h1]
    simp only [List.length_take] at hi
    rw [List.getD_eq_getElem?_getD, List.getD_eq_getElem?_getD, List.getElem?_take_of_lt (by omega)]

theorem capLen_is {w : World} {m cap : Nat} {ao : Option Addr} {us : List Int} {v : Int} (h : MD w m ao cap us) (hv : Hid ((us.length : Int) = v)) :
    Calls Try.prog 10 #[.pointer (some ⟨m, 0, none⟩)] w fun e w' => e = .returned (.int .i64 v) ∧ w = w' := hv.out ▸ capLen_any h

/-! ### STEP 1: THE WALK: the Go text returns true, AND WRITES NOTHING THAT WAS THERE: 'Below w.heap.size w w'' (Derived/Below.lean: '.refl', '.alloc', '.drew', '.setCell' at a new block, '.trans'). Open each 'IsRow' by 'rcases' AHEAD of 'go_enter'; part every test ahead of the walk. -/
set_option maxHeartbeats 4000000
set_option maxRecDepth 100000
theorem walk (a0 : Option Addr) (len0 cap0 : Nat) (z0 : Nat → Bool) (a1 : Option Addr) (len1 cap1 : Nat) (z1 : List Int) (a2 : Option Addr) (len2 cap2 : Nat) (z2 : List Int) (w : World) (w0 : IsRowB w a0 len0 cap0 z0) (w1 : IsRow .i64 w a1 len1 cap1 z1) (w2 : IsRow .i64 w a2 len2 cap2 z2) :
    Calls Try.prog 5 #[.slice a0 len0 cap0, .slice a1 len1 cap1, .slice a2 len2 cap2] w fun e w' => e = .returned (.bool true) ∧ Below w.heap.size w w' := by
  obtain ⟨ks, rfl, hrk, hnk, hlk⟩ := isRowB_told w0
  obtain ⟨ss, rfl, hrs, hns, hls, -⟩ := isRow_told w1
  obtain ⟨ps, rfl, hrp, hnp, hlp, -⟩ := isRow_told w2
  have HRK := Lib.hid hrk
  have HNK := Lib.hid hnk
  have HRS := Lib.hid hrs
  have HNS := Lib.hid hns
  have HRP := Lib.hid hrp
  have HNP := Lib.hid hnp
  clear w0 w1 w2 hrk hnk hrs hns hrp hnp
  by_cases hb : ks.length + ss.length + ps.length ≤ 1048576
  · have tb : decide (ks.length + ss.length + ps.length ≤ 1048576) = true := decide_eq_true hb
    go_enter Try.func5, Try.ntmps5
    go_wp2_with (go_at_call 16; refine (gC_any _ _ _ _ _ _ _ _ _ hlk hls hlp _).mono ?_; rintro e w' ⟨rfl, rfl⟩)
    refine (shape_any _ _ _ _ _ _ _ _ _ _ HRS.out hb).mono ?_
    rintro e w' ⟨v, rfl, rfl, hv⟩
    have HV := Lib.hid hv
    clear hv tb
    cases v with
    | true =>
      go_wp2_with fail
      go_ret
      exact ⟨rfl, Below.refl _ _⟩
    | false =>
      obtain ⟨b1, b2, b3, ha⟩ := HV.out rfl
      have HA := Lib.hid ha
      clear ha HV
      go_wp2_with fail
      refine (cpB_any a0 cap0 ks _ HRK.out HNK.out (by omega)).mono ?_
      rintro e w1 ⟨a0', c0', rfl, hn1, hf1, hr1, hb1⟩
      have HRK1 := Lib.hid hr1
      have HB1 := Lib.hid hb1
      have HRS1 := Lib.hid (HRS.out.below hb1 (Nat.le_refl _))
      have HRP1 := Lib.hid (HRP.out.below hb1 (Nat.le_refl _))
      clear hn1 hf1 hr1 hb1
      go_wp2_with fail
      refine (cpI_any a1 cap1 ss _ HRS1.out HNS.out (by omega)).mono ?_
      rintro e w2 ⟨a1', c1', rfl, hn1, hf1, hr1, hb1⟩
      have HRS2 := Lib.hid hr1
      have HB2 := Lib.hid (HB1.out.trans (hb1.mono HB1.out.size))
      have HRK2 := Lib.hid (HRK1.out.below hb1 (Nat.le_refl _))
      have HRP2 := Lib.hid (HRP1.out.below hb1 (Nat.le_refl _))
      clear hn1 hf1 hr1 hb1 HRK1 HRS1 HRP1 HB1
      go_wp2_with fail
      refine (cpI_any a2 cap2 ps _ HRP2.out HNP.out (by omega)).mono ?_
      rintro e w3 ⟨a2', c2', rfl, hn1, hf1, hr1, hb1⟩
      have HRP3 := Lib.hid hr1
      have HB3 := Lib.hid (HB2.out.trans (hb1.mono HB2.out.size))
      have HRK3 := Lib.hid (HRK2.out.below hb1 (Nat.le_refl _))
      have HRS3 := Lib.hid (HRS2.out.below hb1 (Nat.le_refl _))
      clear hn1 hf1 hr1 hb1 HRK2 HRS2 HRP2 HB2
      obtain ⟨n, hn⟩ : ∃ n, min ks.length (min ss.length ps.length) = n := ⟨_, rfl⟩
      have n1 : n ≤ ks.length := by omega
      have n2 : n ≤ ss.length := by omega
      have n3 : n ≤ ps.length := by omega
      have HN := Lib.hid hn
      clear hn
      go_wp2_with fail
      refine (minLen3_any ks.length ss.length ps.length (by omega) (by omega) (by omega) _).mono ?_
      rw [HN.out]
      rintro e w' ⟨rfl, rfl⟩
      go_wp2_with fail
      refine (zzNS_any _).mono ?_
      rintro e w4 ⟨rfl, hm4, hb4, hz4⟩
      have HM4 := Lib.hid hm4
      have HB4 := Lib.hid hb4
      have HZ4 := Lib.hid hz4
      clear hm4 hb4 hz4
      generalize hgg : w3.heap.size = B at *
      have HGG := Lib.hid hgg
      clear hgg
      go_wp2_with fail
      refine (capLen_is (v := 0) HM4.out (Lib.hid rfl)).mono ?_
      rintro e w' ⟨rfl, rfl⟩
      go_wp2_with fail
      go_loopw [9, 10] (fun l i wr => ∃ k : Nat, ∃ ao cap us, k ≤ n ∧ i = .int .i64 k ∧ l = .int .i64 ((us.length : Nat) : Int) ∧ us.length ≤ 4098 ∧ MD wr (B + 1) ao cap us ∧ (∀ g, blkOf ao = some g → B ≤ g) ∧ Below B w3 wr) (fun _ i _ => n - (intOf i).toNat)
      case atStart => exact ⟨0, _, _, [], Nat.zero_le _, rfl, rfl, by simp, HM4.out, fun g hg => by simp only [blkOf, Option.map_some, Option.some.injEq] at hg; omega, HB4.out⟩
      case round =>
        obtain ⟨k, ao, cap, us, hk, rfl, rfl, hu, hm, hro, hbel⟩ := hrel
        have HM := Lib.hid hm
        have HRO := Lib.hid hro
        have HB := Lib.hid hbel
        clear hm hro hbel
        by_cases hlt : k < n
        · obtain ⟨kb, ko, rfl, hkc⟩ := (HRK3.out.below HB.out (by rw [HGG.out]; exact Nat.le_refl _)).at (i := k) (by omega)
          obtain ⟨sb, so, rfl, hsc⟩ := (HRS3.out.below HB.out (by rw [HGG.out]; exact Nat.le_refl _)).at (i := k) (by omega)
          obtain ⟨pb, po, rfl, hpc⟩ := (HRP3.out.below HB.out (by rw [HGG.out]; exact Nat.le_refl _)).at (i := k) (by omega)
          obtain ⟨kv, hkv⟩ : ∃ v, ks.getD k false = v := ⟨_, rfl⟩
          obtain ⟨p, hp⟩ : ∃ v, ps.getD k 0 = v := ⟨_, rfl⟩
          have hs0 := HA.out k (by omega)
          obtain ⟨s, hs⟩ : ∃ s : Nat, ss.getD k 0 = (s : Int) := ⟨(ss.getD k 0).toNat, by omega⟩
          rw [hkv] at hkc
          rw [hp] at hpc
          rw [hs] at hsc hs0
          have hs1 : s ≤ 4096 := by omega
          clear hkv hp hs hs0
          have ki1 : (k : Int) < (ks.length : Int) := by omega
          have ki2 : (k : Int) < (ss.length : Int) := by omega
          have ki3 : (k : Int) < (ps.length : Int) := by omega
          cases kv with
          | true =>
            obtain ⟨us', hus⟩ : ∃ l, ((ext us (s + 2)).set s (posW p)).set (s + 1) (posW p) = l := ⟨_, rfl⟩
            have hul : us'.length = max us.length (s + 2) := by rw [← hus]; simp [length_ext]
            have HUL := Lib.hid hul
            have HUS := Lib.hid hus
            clear hus hul
            go_wp2_with fail
            refine (zzAdd_any p HM.out (by omega)).mono ?_
            rw [HUS.out]
            rintro e w5 ⟨rfl, ao5, cap5, hm5, hv5⟩
            have HM5 := Lib.hid hm5
            have HB5 := Lib.hid (hv5.below (B := B) (by omega) HRO.out (by have := HB.out.size; have := HGG.out; omega))
            have HRO5 := Lib.hid (hv5.rowB HRO.out (by have := HB.out.size; have := HGG.out; omega))
            clear hm5 hv5
            rcases Nat.lt_or_ge us.length (s + 2) with q | q
            · have t1 : decide ((us.length : Int) < (s : Int) + 2) = true := decide_eq_true (by omega)
              go_wp2_with fail
              refine (capLen_is (v := (s : Int) + 2) HM5.out (Lib.hid (by have := HUL.out; omega))).mono ?_
              rintro e w' ⟨rfl, rfl⟩
              go_wp2_with fail
              go_roundw
              case rel => exact ⟨k + 1, ao5, cap5, us', by omega, by go_num, by rw [show us'.length = s + 2 by have := HUL.out; omega]; go_num, by have := HUL.out; omega, HM5.out, HRO5.out, HB.out.trans HB5.out⟩
              case measure => simp [intOf]; omega
            · have t1 : decide ((us.length : Int) < (s : Int) + 2) = false := decide_eq_false (by omega)
              go_wp2_with fail
              refine (capLen_is (v := (us.length : Int)) HM5.out (Lib.hid (by have := HUL.out; omega))).mono ?_
              rintro e w' ⟨rfl, rfl⟩
              go_wp2_with fail
              go_roundw
              case rel => exact ⟨k + 1, ao5, cap5, us', by omega, by go_num, by rw [show us'.length = us.length by have := HUL.out; omega], by have := HUL.out; omega, HM5.out, HRO5.out, HB.out.trans HB5.out⟩
              case measure => simp [intOf]; omega
          | false =>
            obtain ⟨us', hus⟩ : ∃ l, (ext us (s + 1)).set s (capW p) = l := ⟨_, rfl⟩
            have hul : us'.length = max us.length (s + 1) := by rw [← hus]; simp [length_ext]
            have HUL := Lib.hid hul
            have HUS := Lib.hid hus
            clear hus hul
            go_wp2_with fail
            refine (zzSet_any p HM.out (by omega)).mono ?_
            rw [HUS.out]
            rintro e w5 ⟨rfl, ao5, cap5, hm5, hv5⟩
            have HM5 := Lib.hid hm5
            have HB5 := Lib.hid (hv5.below (B := B) (by omega) HRO.out (by have := HB.out.size; have := HGG.out; omega))
            have HRO5 := Lib.hid (hv5.rowB HRO.out (by have := HB.out.size; have := HGG.out; omega))
            clear hm5 hv5
            rcases Nat.lt_or_ge us.length (s + 1) with q | q
            · have t1 : decide ((us.length : Int) < (s : Int) + 1) = true := decide_eq_true (by omega)
              go_wp2_with fail
              refine (capLen_is (v := (s : Int) + 1) HM5.out (Lib.hid (by have := HUL.out; omega))).mono ?_
              rintro e w' ⟨rfl, rfl⟩
              go_wp2_with fail
              go_roundw
              case rel => exact ⟨k + 1, ao5, cap5, us', by omega, by go_num, by rw [show us'.length = s + 1 by have := HUL.out; omega]; go_num, by have := HUL.out; omega, HM5.out, HRO5.out, HB.out.trans HB5.out⟩
              case measure => simp [intOf]; omega
            · have t1 : decide ((us.length : Int) < (s : Int) + 1) = false := decide_eq_false (by omega)
              go_wp2_with fail
              refine (capLen_is (v := (us.length : Int)) HM5.out (Lib.hid (by have := HUL.out; omega))).mono ?_
              rintro e w' ⟨rfl, rfl⟩
              go_wp2_with fail
              go_roundw
              case rel => exact ⟨k + 1, ao5, cap5, us', by omega, by go_num, by rw [show us'.length = us.length by have := HUL.out; omega], by have := HUL.out; omega, HM5.out, HRO5.out, HB.out.trans HB5.out⟩
              case measure => simp [intOf]; omega
        · go_wp2_with fail
          go_ret
          exact ⟨rfl, HB3.out.trans (HB.out.mono (by have := HB3.out.size; have := HGG.out; omega))⟩
  · have tb : decide (ks.length + ss.length + ps.length ≤ 1048576) = false := decide_eq_false hb
    go_enter Try.func5, Try.ntmps5
    go_wp2_with (go_at_call 16; refine (gC_any _ _ _ _ _ _ _ _ _ hlk hls hlp _).mono ?_; rintro e w' ⟨rfl, rfl⟩)
    go_ret
    exact ⟨rfl, Below.refl _ _⟩

/-! ### THE ROW's STEP: WRITTEN OUT: LEAVE IT -/
set_option maxRecDepth 100000 in
theorem lifted (os : Os) (started : os.Started) (H : Type) (enc : TypeId × Value → H) :
    ReturnsInHanded {} Try.checked os 5 .any (Rows.fnCaptureLengthGrowsToReachSpec.pre6 enc Try.prog Try.f5 Rows.fnCaptureLengthGrowsToReachRow.domain false) (Rows.fnCaptureLengthGrowsToReachSpec.post enc Try.prog Try.f5 false true false false) := by
  refine returnsInHanded_of_change (C := Try.checked) own started (by kernel_rfl) Try.func5
    (ChangeSpec.witness6 (enc := enc) (C := Try.checked) false ⟨#[], #[.slice none 0 0, .slice none 0 0, .slice none 0 0], []⟩ 8 (by kernel_rfl) (by kernel_rfl) (by kernel_rfl) (by kernel_rfl)) ?_
  intro W base args ds gs before hval0 hW hcnd _
  have hval : ∀ (j : Nat) t v, Try.f5.params[j]? = some t → args[j]? = some v → Value.okWide Try.prog W .any base t v := hval0
  have hW' := hW
  obtain ⟨p, q, hA0, hV, rfl, hfz, hnd⟩ := hW
  have hA : DataW.TrodAll enc Try.prog W 0 (fun _ => true) true Try.f5.params.toList args.toList ds p := hA0
  rw [Try.params5] at hA hval
  obtain ⟨v0, vs0, d0, ds0, p0, q0, hargs, rfl, rfl, h0, r0⟩ := trodAll_cons hA
  obtain ⟨v1, vs1, d1, ds1, p1, q1, rfl, rfl, rfl, h1, r1⟩ := trodAll_cons r0
  obtain ⟨v2, vs2, d2, ds2, p2, q2, rfl, rfl, rfl, h2, r2⟩ := trodAll_cons r1
  obtain ⟨rfl, rfl, rfl⟩ := trodAll_nil r2
  obtain rfl : args = #[v0, v1, v2] := by cases args; simp_all
  obtain ⟨rfl, rfl⟩ := trodVars_none hV
  obtain ⟨a0, len0, cap0, rfl⟩ := okWide_slice Try.underlying34 (hval 0 34 v0 rfl rfl)
  have k0 := h0
  have lt0 : ∀ x ∈ p0, x.block < W.heap.size := by obtain ⟨m, hm⟩ := k0; exact DataW.trod_lt m _ _ _ hm
  obtain ⟨z0, w0⟩ : ∃ zs, IsRowB W a0 len0 cap0 zs := by
    obtain ⟨fuel, hf⟩ := h0
    rcases Go.Deep.open_bools Try.underlying34 Try.underlying4 (by kernel_rfl) hf with ⟨hcs, _⟩ | ⟨x, l, c, B, hcs, _, hl, hm, _, hcell⟩
    · simp [Value.cells] at hcs
      obtain ⟨rfl, rfl, rfl⟩ := hcs
      exact ⟨fun _ => false, .inl ⟨rfl, rfl, rfl⟩⟩
    · simp [Value.cells] at hcs
      obtain ⟨rfl, rfl, rfl⟩ := hcs
      exact ⟨B, .inr ⟨_, rfl, hl, hm, hcell⟩⟩
  obtain ⟨a1, len1, cap1, rfl⟩ := okWide_slice Try.underlying35 (hval 1 35 v1 rfl rfl)
  have k1 := h1
  have lt1 : ∀ x ∈ p1, x.block < W.heap.size := by obtain ⟨m, hm⟩ := k1; exact DataW.trod_lt m _ _ _ hm
  obtain ⟨z1, w1⟩ : ∃ zs, IsRow .i64 W a1 len1 cap1 zs := by
    obtain ⟨fuel, hf⟩ := h1
    rcases open_ints Try.underlying35 Try.underlying3 (by kernel_rfl) hf with ⟨hcs, _⟩ | ⟨x, l, c, zs, hcs, _, hl, hm, hz, _, hcell, hwz⟩
    · simp [Value.cells] at hcs
      obtain ⟨rfl, rfl, rfl⟩ := hcs
      exact ⟨[], .inl ⟨rfl, rfl, rfl, rfl⟩⟩
    · simp [Value.cells] at hcs
      obtain ⟨rfl, rfl, rfl⟩ := hcs
      exact ⟨zs, .inr ⟨_, rfl, hl, hm, by simpa using hz, hcell, hwz⟩⟩
  obtain ⟨a2, len2, cap2, rfl⟩ := okWide_slice Try.underlying35 (hval 2 35 v2 rfl rfl)
  have k2 := h2
  have lt2 : ∀ x ∈ p2, x.block < W.heap.size := by obtain ⟨m, hm⟩ := k2; exact DataW.trod_lt m _ _ _ hm
  obtain ⟨z2, w2⟩ : ∃ zs, IsRow .i64 W a2 len2 cap2 zs := by
    obtain ⟨fuel, hf⟩ := h2
    rcases open_ints Try.underlying35 Try.underlying3 (by kernel_rfl) hf with ⟨hcs, _⟩ | ⟨x, l, c, zs, hcs, _, hl, hm, hz, _, hcell, hwz⟩
    · simp [Value.cells] at hcs
      obtain ⟨rfl, rfl, rfl⟩ := hcs
      exact ⟨[], .inl ⟨rfl, rfl, rfl, rfl⟩⟩
    · simp [Value.cells] at hcs
      obtain ⟨rfl, rfl, rfl⟩ := hcs
      exact ⟨zs, .inr ⟨_, rfl, hl, hm, by simpa using hz, hcell, hwz⟩⟩
  clear hA0 hval0
  refine (walk a0 len0 cap0 z0 a1 len1 cap1 z1 a2 len2 cap2 z2 W w0 w1 w2).mono fun e W' ⟨he, bel⟩ => ?_
  subst he
  exact ⟨_, rfl, _, _, _, [], _, [], hW', trodAll_mk1 (shut_bool Try.underlying4 _), (trodAll_cons_mk (Below.trod laidOut (by kernel_rfl) (of_decide_eq_true (by kernel_rfl)) k0 bel lt0) (trodAll_cons_mk (Below.trod laidOut (by kernel_rfl) (of_decide_eq_true (by kernel_rfl)) k1 bel lt1) (trodAll_cons_mk (Below.trod laidOut (by kernel_rfl) (of_decide_eq_true (by kernel_rfl)) k2 bel lt2) trodAll_mk0))), rfl, bel.frame _, fun h => by cases h⟩

theorem over : Rows.fnCaptureLengthGrowsToReachRow.holds Try.pinned (OpenSpec.ofChange Rows.fnCaptureLengthGrowsToReachSpec) :=
  OpenClaim.holds_of_wide 5 Try.f5 rfl rfl rfl rfl rfl rfl rfl ⟨rfl, rfl, rfl, rfl, rfl⟩ rfl rfl rfl rfl rfl (by kernel_rfl) Try.func5 (by kernel_rfl)
    (of_decide_eq_true (by kernel_rfl)) (by unfold Func.isWrapper; first | (rw [if_pos (by decide +kernel)]; kernel_rfl) | (rw [if_neg (by decide +kernel)]; exact ⟨rfl, rfl⟩))
    (fun os started H enc _ => lifted os started H enc)

/-- ████ THE STATEMENT ████ -/
theorem proved : Rows.FnCaptureLengthGrowsToReachSaid := over
#print axioms proved
end Go.Proofs.Ytfobgfmejfbanaa.fnCaptureLengthGrowsToReach
