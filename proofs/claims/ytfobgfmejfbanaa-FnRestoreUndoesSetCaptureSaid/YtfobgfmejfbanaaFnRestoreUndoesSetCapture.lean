/-
  The given statement on FnRestoreUndoesSetCapture: for every input the law returns true and leaves its arguments as they were. No condition beyond the statement's own.
  The frame was written by the kit's proof-skeleton.
-/
import Derived.Test.YtfobgfmejfbanaaHelp5
import Derived.Test.YtfobgfmejfbanaaRows
import Derived.WalkKit
import Derived.ProofKit
import Derived.OpenShut
import Derived.ShutString
import Derived.ChangeOld
import Derived.Below
namespace Go.Proofs.Ytfobgfmejfbanaa.fnRestoreUndoesSetCapture
open Go.ChangeShapes Go.WideShapes Go.ChangeAt Go.RowKit
open Go.ChangeMaps (open_string shut_string)
set_option linter.unusedVariables false

theorem own : ownKnob Try.prog.godebug = none := by kernel_rfl
theorem laidOut : laidOutB Try.prog = true := by kernel_rfl

/-- WHAT THE WALK IS TOLD OF A SLICE OF INTEGERS THAT CAME IN: it is nil; or it leads to a row of 'cap' cells, the numbers 'zs' (the first 'len' are its elements, the rest its spare room), each fitting its kind. -/
def IsRow (k : IntKind) (w : World) (a : Option Addr) (len cap : Nat) (zs : List Int) : Prop :=
  (a = none ∧ len = 0 ∧ cap = 0 ∧ zs = []) ∨
  ∃ x, a = some x ∧ len ≤ cap ∧ cap ≤ maxLen ∧ zs.length = cap ∧ (∀ i, i < zs.length → w.cell? (x.add i) = some (.int k (zs.getD i 0))) ∧ ∀ n ∈ zs, (Lit.int k n).wf = true

/-- What 'IsRow' says, over the elements alone. -/
theorem isRow_told {k : IntKind} {w : World} {a : Option Addr} {len cap : Nat} {zs : List Int} (h : IsRow k w a len cap zs) :
    ∃ ys : List Int, ys.length = len ∧ RowInt k w a ys ∧ (a = none → ys.length = 0) ∧ len ≤ 9223372036854775807 ∧ (∀ n, n ∈ ys → (Lit.int k n).wf = true) := by
  rcases h with ⟨rfl, rfl, rfl, rfl⟩ | ⟨x, rfl, hl, hm, hz, hcell, hwz⟩
  · exact ⟨[], rfl, fun h0 => absurd h0 (Nat.lt_irrefl _), fun _ => rfl, by omega, fun n hn => by simp at hn⟩
  · refine ⟨zs.take len, by simp; omega, fun h0 => ?_, fun h0 => (by cases h0), by unfold maxLen at hm; omega, fun n hn => hwz n (List.mem_of_mem_take hn)⟩
    have h0' : 0 < len := by simp at h0; omega
    have hsp : x.spot = none := by simpa [Addr.add] using World.cell?_spot (hcell 0 (by omega))
    obtain ⟨b, off, spot⟩ := x
    simp only at hsp
    subst hsp
    refine ⟨b, off, rfl, fun i hi => ?_⟩
    have h1 := hcell i (by simp at hi; omega)
    rw [addr_add] at h1
    rw [h1]
    simp only [List.length_take] at hi
    rw [List.getD_eq_getElem?_getD, List.getD_eq_getElem?_getD, List.getElem?_take_of_lt (by omega)]

set_option maxHeartbeats 4000000
set_option maxRecDepth 100000

/-! ### STEP 1: THE WALK: the Go text returns true, AND WRITES NOTHING THAT WAS THERE: 'Below w.heap.size w w'' (Derived/Below.lean: '.refl', '.alloc', '.drew', '.setCell' at a new block, '.trans'). Open each 'IsRow' by 'rcases' AHEAD of 'go_enter'; part every test ahead of the walk. -/
theorem walk (a0 : Option Addr) (len0 cap0 : Nat) (z0 : List Int) (a1 : Int) (a2 : Int) (w : World) (w0 : IsRow .u32 w a0 len0 cap0 z0) (w1 : (Lit.int .i64 a1).wf = true) (w2 : (Lit.int .i64 a2).wf = true) :
    Calls Try.prog 4 #[.slice a0 len0 cap0, .int .i64 a1, .int .i64 a2] w fun e w' => e = .returned (.bool true) ∧ Below w.heap.size w w' := by
  obtain ⟨ys, rfl, hrow, hnil, hlen, hwf⟩ := isRow_told w0
  have HW := Lib.hid (fun z hz => u32_bd (hwf z hz) : ∀ z, z ∈ ys → 0 ≤ z ∧ z < 4294967296)
  have HR := Lib.hid hrow
  have HNI := Lib.hid hnil
  clear w0 hwf hrow hnil
  rcases (show 1048576 < ys.length ∨ (ys.length ≤ 1048576 ∧ 65536 < ys.length) ∨ ys.length ≤ 65536 by omega) with q | ⟨q, q'⟩ | q
  · have tb : decide (ys.length ≤ 1048576) = false := decide_eq_false (by omega)
    go_enter Try.func4, Try.ntmps4
    go_wp2_with (go_at_call 13; refine (g2_any _ _ _ _ _ hlen _).mono ?_; rintro e w' ⟨rfl, rfl⟩)
    go_ret
    exact ⟨rfl, Below.refl _ _⟩
  · have tb : decide (ys.length ≤ 1048576) = true := decide_eq_true q
    go_enter Try.func4, Try.ntmps4
    go_wp2_with (go_at_call 13; refine (g2_any _ _ _ _ _ hlen _).mono ?_; rintro e w' ⟨rfl, rfl⟩)
    go_ret
    exact ⟨rfl, Below.refl _ _⟩
  · have tb : decide (ys.length ≤ 1048576) = true := decide_eq_true (by omega)
    rcases (show a1 < 0 ∨ (0 ≤ a1 ∧ 65536 < a1) ∨ (0 ≤ a1 ∧ a1 ≤ 65536) by omega) with r | ⟨r, r'⟩ | ⟨r, r'⟩
    · have tn : decide (a1 < 0) = true := decide_eq_true r
      go_enter Try.func4, Try.ntmps4
      go_wp2_with (go_at_call 13; refine (g2_any _ _ _ _ _ hlen _).mono ?_; rintro e w' ⟨rfl, rfl⟩)
      go_ret
      exact ⟨rfl, Below.refl _ _⟩
    · have tn : decide (a1 < 0) = false := decide_eq_false (by omega)
      have tm : decide (65536 < a1) = true := decide_eq_true r'
      go_enter Try.func4, Try.ntmps4
      go_wp2_with (go_at_call 13; refine (g2_any _ _ _ _ _ hlen _).mono ?_; rintro e w' ⟨rfl, rfl⟩)
      go_ret
      exact ⟨rfl, Below.refl _ _⟩
    · obtain ⟨s, rfl⟩ : ∃ k : Nat, a1 = (k : Int) := ⟨a1.toNat, by omega⟩
      have hs : s ≤ 65536 := by omega
      have tn : decide ((s : Int) < 0) = false := decide_eq_false (by omega)
      have tm : decide (65536 < (s : Int)) = false := decide_eq_false (by omega)
      clear r r'
      obtain ⟨i0, hi, hz0, hz1, hz2⟩ := info_parts u32_info
      go_enter Try.func4, Try.ntmps4
      go_wp2_with (go_at_call 13; refine (g2_any _ _ _ _ _ hlen _).mono ?_; rintro e w' ⟨rfl, rfl⟩)
      refine (copyU_any a0 cap0 ys _ HR.out HNI.out (by omega)).mono ?_
      rintro e w1 ⟨a1', c1', rfl, hf1, ho1, hr1, hb1⟩
      have HF1 := Lib.hid hf1
      have HR1 := Lib.hid hr1
      have HB1 := Lib.hid hb1
      have HO1 := Lib.hid ho1
      clear hf1 hr1 hb1 ho1
      go_wp2_with fail
      refine (copyU_any a1' c1' ys _ HR1.out (own_nil HO1.out) (by omega)).mono ?_
      rintro e w2 ⟨b2, c2, rfl, hf2, ho2, hr2, hb2⟩
      have HF2 := Lib.hid hf2
      have HO2 := Lib.hid ho2
      have HR2 := Lib.hid (HR1.out.below hb2 (Nat.le_refl _))
      have HB2 := Lib.hid (HB1.out.trans (hb2.mono HB1.out.size))
      clear hf2 hr2 hb2 ho2
      go_wp2_with fail
      refine (zzND_any _ _ _ _).mono ?_
      rintro e w3 ⟨rfl, rfl⟩
      have HM := Lib.hid (MD.new (owns_base HO2.out (Nat.zero_le _)) HW.out (by omega))
      have HB3 := Lib.hid (HB2.out.alloc HB2.out.size (.cells #[.slice b2 ys.length c2] 44))
      have HR3 := Lib.hid (HR2.out.below ((Below.refl w2.heap.size w2).alloc (Nat.le_refl _) (.cells #[.slice b2 ys.length c2] 44)) (Nat.le_refl _))
      generalize w2.alloc (.cells #[.slice b2 ys.length c2] 44) = w3 at *
      have hmm : w2.heap.size < w3.heap.size := HM.out.lt
      have HWM := Lib.hid HB2.out.size
      have HWB := Lib.hid (fun q hq => Nat.le_trans HB1.out.size (own_block HO2.out q hq).1 : ∀ q, blkOf b2 = some q → w.heap.size ≤ q)
      generalize hgg : w2.heap.size = mm at *
      clear hgg
      have HMM := Lib.hid hmm
      clear hmm
      go_wp2_with fail
      refine (copyU_any a1' c1' ys _ HR3.out (own_nil HO1.out) (by omega)).mono ?_
      rintro e w4 ⟨a4, c4, rfl, hf4, ho4, hr4, hb4⟩
      generalize hB : w3.heap.size = B at *
      have HBB := Lib.hid hB
      have HO4 := Lib.hid ho4
      have HB4 := Lib.hid hb4
      have HZ4 := Lib.hid (show B ≤ w4.heap.size by have := hb4.size; omega)
      clear hf4 ho4 hr4 hb4 hB
      go_wp2_with fail
      go_loopg [8] (s + 1 - ys.length) (fun k v wr => ∃ ao cap vs, k = s + 1 - vs.length ∧ v = .slice ao vs.length cap ∧ ys.length ≤ vs.length ∧ vs.length ≤ max ys.length (s + 1) ∧ ext vs (s + 1) = ext ys (s + 1) ∧ wr.ownsRow B 29 1 (.slice ao vs.length cap) vs.length (vs.map (Value.int .u32)) ∧ Below B w3 wr)
      case atStart => exact ⟨a4, c4, ys, rfl, rfl, Nat.le_refl _, by omega, rfl, HO4.out, HB4.out⟩
      case round =>
        obtain ⟨ao, cap, vs, rfl, rfl, hle, hle2, hext, hown, hbel⟩ := hrel
        have HX := Lib.hid hext
        have HO := Lib.hid hown
        have HB := Lib.hid hbel
        have HOA := Lib.hid (hown.alloc (.cells #[.int .u32 0] 29))
        have hsz : B ≤ wr.heap.size := by have := hbel.size; have := HBB.out; omega
        clear hext hown hbel
        by_cases hlt : vs.length < s + 1
        · go_wp2_with (at_builtin; refine wpList_push _ rfl (.tmp 38) (.tmp 39) 22 rfl B 29 i0 (.int .u32 0) 1 4 Try.underlying22 hi hz0 hz1 hz2 rfl (by decide) _ _ _ _ rfl HOA.out ⟨wr.heap.size, 0, none⟩ 1 1 [.int .u32 0] rfl rfl (cell_one_new _ _ _) (fun u hu => by simp at hu; subst hu; rfl) (by decide) (by unfold maxLen; omega) (by omega) (by simp; omega) ?_; intro g1 c1 w5 hown' hgrow hwhere; have HO' := Lib.hid hown'; have HG := Lib.hid hgrow; clear hown' hgrow hwhere)
          go_roundg (s + 1 - (vs ++ [(0 : Int)]).length)
          case measure => simp; omega
          case rel =>
            refine ⟨some ⟨g1, 0, none⟩, c1, vs ++ [0], rfl, by simp, by simp; omega, by simp; omega, (ext_snoc hlt).trans HX.out, by simpa using HO'.out, HB.out.trans ?_⟩
            refine ⟨HG.out.os, HG.out.tape, HG.out.output, Nat.le_trans (by simp) HG.out.size, fun q hq => ?_⟩
            refine (HG.out.block q (by simp; omega) (fun e => ?_)).trans (Below.heap_alloc wr _ q (by omega))
            have := (own_block HO.out q e.symm).1
            omega
        · have hvs : vs = ext ys (s + 1) := by rw [← HX.out, ext_same (by omega)]
          have HVS := Lib.hid hvs
          have hvl : vs.length = max ys.length (s + 1) := by rw [hvs, length_ext]
          have hk1 : MD wr mm b2 c2 ys := HM.out.kept (HB.out.block _ (by have := HM.out.lt; have := HBB.out; omega)) (fun g hg => HB.out.block _ (by have := (HM.out.row' g hg).2; have := HBB.out; omega))
          have HK1 := Lib.hid hk1
          clear hvs hk1 hvl
          obtain ⟨g, rfl⟩ : ∃ g, ao = some ⟨g, 0, none⟩ := by
            rcases HO.out.2 with ⟨h1, h2⟩ | ⟨g, c', cur, h1, _⟩
            · omega
            · simp only [Value.slice.injEq] at h1; exact ⟨g, h1.1⟩
          have hgb := own_block HO.out g rfl
          obtain ⟨u, hu⟩ : ∃ u, u = vs.getD s 0 := ⟨_, rfl⟩
          have hub : 0 ≤ u ∧ u < 4294967296 := by
            rw [hu, HVS.out, getD_ext]
            exact HK1.out.word s
          have HSC := zzSet_any (s := s) a2 HK1.out (by omega)
          rw [← HVS.out, ← hu] at HSC
          have HS := Lib.hid HSC
          have HU := Lib.hid hu
          have HGB := Lib.hid hgb
          have hvi : (s : Int) < (vs.length : Int) := by omega
          have hmmB : mm < B := by have := HMM.out; have := HBB.out; omega
          have HMB := Lib.hid hmmB
          clear HSC hu hgb hmmB
          go_wp2_with fail
          refine HS.out.mono ?_
          rintro e w5 ⟨rfl, ao5, cap5, hm5, hv5⟩
          have hb2 : ∀ q, blkOf b2 = some q → q < B := fun q hq => by have := (HM.out.row' q hq).2; have := HBB.out; omega
          have ho5 := hv5.owns HO.out (fun q hq => by
            simp only [blkOf, Option.map_some, Option.some.injEq] at hq
            subst hq
            exact ⟨by have := HGB.out.1; have := HMB.out; omega, fun e => by have := hb2 _ e.symm; have := HGB.out.1; omega⟩)
          have hc5 : w5.cell? ⟨g, s, none⟩ = some (.int .u32 u) := by
            rw [ho5.cellAt s (by omega), List.getElem?_map, List.getElem?_eq_getElem (by omega)]
            rw [HU.out, List.getD_eq_getElem?_getD, List.getElem?_eq_getElem (by omega)]; rfl
          have hro5 := hv5.row
          have hbel5 : Below w.heap.size w w5 := by
            have h1 : Below w.heap.size w wr := HB3.out.trans (HB.out.mono (by have := HB3.out.size; have := HBB.out; omega))
            exact h1.trans (hv5.below (B := w.heap.size) (HWM.out) (fun q hq => HWB.out q hq) h1.size)
          have HM5 := Lib.hid hm5
          have HO5 := Lib.hid ho5
          have HV5 := Lib.hid hv5
          have HB5 := Lib.hid hbel5
          clear hm5 ho5 hv5 hb2 hro5 hbel5
          go_wp2_with fail
          refine (zzRest_any (s := s) u HM5.out (by rw [List.length_set]; omega) hub).mono ?_
          rintro e w6 ⟨rfl, hm6, hv6⟩
          have hback : ((vs.set s (capW a2)).set s u) = vs := by
            rw [List.set_set, HU.out, List.getD_eq_getElem?_getD, List.getElem?_eq_getElem (by omega)]
            exact List.set_getElem_self _
          rw [hback] at hm6
          have h5 : ∀ q, blkOf ao5 = some q → q ≠ g := fun q hq e => by
            subst e
            rcases HV5.out.row with hr | hr
            · have := (HM.out.row' q (hr ▸ hq)).2
              have := HGB.out.1
              have := HBB.out
              omega
            · have := hr q hq
              have := HGB.out.2
              omega
          have ho6 := hv6.owns HO5.out (fun q hq => by
            simp only [blkOf, Option.map_some, Option.some.injEq] at hq
            subst hq
            exact ⟨by have := HGB.out.1; have := HMB.out; omega, fun e => h5 _ e.symm rfl⟩)
          have hb6 : Below w.heap.size w w6 := HB5.out.trans (hv6.below (B := w.heap.size) HWM.out (HV5.out.rowB (fun q hq => HWB.out q hq) (by have := HB3.out.size; have := HB.out.size; omega)) HB5.out.size)
          have HM6 := Lib.hid hm6
          have HO6 := Lib.hid ho6
          have HB6 := Lib.hid hb6
          clear hback h5 ho6 hb6 hm6 hv6
          go_wp2_with fail
          refine (zzND_any _ _ _ _).mono ?_
          rintro e w7 ⟨rfl, rfl⟩
          have HR7 := Lib.hid (MD.new (us := vs) (owns_base HO6.out (Nat.zero_le _)) (fun x hx => HM6.out.bd x hx) (by omega))
          have HM7 := Lib.hid (HM6.out.kept (w' := w6.alloc (.cells #[.slice (some ⟨g, 0, none⟩) vs.length cap] 44)) (Below.heap_alloc _ _ _ HM6.out.lt) (fun q hq => Below.heap_alloc _ _ _ (HM6.out.row' q hq).2))
          have HB7 := Lib.hid (HB6.out.alloc HB6.out.size (.cells #[.slice (some ⟨g, 0, none⟩) vs.length cap] 44))
          generalize w6.alloc (.cells #[.slice (some ⟨g, 0, none⟩) vs.length cap] 44) = w7 at *
          generalize w6.heap.size = rr at *
          go_wp2_with fail
          refine (capLen_any HM7.out).mono ?_
          rintro e w' ⟨rfl, rfl⟩
          go_wp2_with fail
          refine (capLen_any HR7.out).mono ?_
          rintro e w' ⟨rfl, rfl⟩
          go_wp2_with fail
          go_loop [11] (fun i => ∃ k : Nat, k ≤ vs.length ∧ i = .int .i64 k) (fun i => vs.length - (intOf i).toNat)
          case atStart => exact ⟨0, Nat.zero_le _, rfl⟩
          case round =>
            obtain ⟨k, hk, rfl⟩ := hrel
            by_cases hlt3 : k < vs.length
            · obtain ⟨x1, hx1⟩ : ∃ x, x = vs.getD k 0 / 2 := ⟨_, rfl⟩
              obtain ⟨x2, hx2⟩ : ∃ x, x = (vs.getD k 0 % 2 == 1) := ⟨_, rfl⟩
              have X1 : Hid (vs.getD k 0 / 2 = x1) := hx1.symm
              have X2 : Hid ((vs.getD k 0 % 2 == 1) = x2) := hx2.symm
              clear hx1 hx2
              go_wp2_with fail
              refine (cap_is k _ HM7.out hlt3 X1).mono ?_
              rintro e w' ⟨rfl, rfl⟩
              go_wp2_with fail
              refine (cap_is k _ HR7.out hlt3 X1).mono ?_
              rintro e w' ⟨rfl, rfl⟩
              go_wp2_with fail
              refine (isPos_is k _ HM7.out hlt3 X2).mono ?_
              rintro e w' ⟨rfl, rfl⟩
              go_wp2_with fail
              refine (isPos_is k _ HR7.out hlt3 X2).mono ?_
              rintro e w' ⟨rfl, rfl⟩
              go_wp2_with fail
              go_round
              case rel => exact ⟨k + 1, by omega, by go_num⟩
              case measure => first | (simp [intOf]; done) | (simp [intOf]; omega)
            · go_wp2_with fail
              go_ret
              exact ⟨rfl, HB7.out⟩

/-! ### THE ROW's STEP: WRITTEN OUT: LEAVE IT -/
set_option maxRecDepth 100000 in
theorem lifted (os : Os) (started : os.Started) (H : Type) (enc : TypeId × Value → H) :
    ReturnsInHanded {} Try.checked os 4 .any (Rows.fnRestoreUndoesSetCaptureSpec.pre6 enc Try.prog Try.f4 Rows.fnRestoreUndoesSetCaptureRow.domain false) (Rows.fnRestoreUndoesSetCaptureSpec.post enc Try.prog Try.f4 false true false false) := by
  refine returnsInHanded_of_change (C := Try.checked) own started (by kernel_rfl) Try.func4
    (ChangeSpec.witness6 (enc := enc) (C := Try.checked) false ⟨#[], #[.slice none 0 0, .int .i64 0, .int .i64 0], []⟩ 8 (by kernel_rfl) (by kernel_rfl) (by kernel_rfl) (by kernel_rfl)) ?_
  intro W base args ds gs before hval0 hW hcnd _
  have hval : ∀ (j : Nat) t v, Try.f4.params[j]? = some t → args[j]? = some v → Value.okWide Try.prog W .any base t v := hval0
  have hW' := hW
  obtain ⟨p, q, hA0, hV, rfl, hfz, hnd⟩ := hW
  have hA : DataW.TrodAll enc Try.prog W 0 (fun _ => true) true Try.f4.params.toList args.toList ds p := hA0
  rw [Try.params4] at hA hval
  obtain ⟨v0, vs0, d0, ds0, p0, q0, hargs, rfl, rfl, h0, r0⟩ := trodAll_cons hA
  obtain ⟨v1, vs1, d1, ds1, p1, q1, rfl, rfl, rfl, h1, r1⟩ := trodAll_cons r0
  obtain ⟨v2, vs2, d2, ds2, p2, q2, rfl, rfl, rfl, h2, r2⟩ := trodAll_cons r1
  obtain ⟨rfl, rfl, rfl⟩ := trodAll_nil r2
  obtain rfl : args = #[v0, v1, v2] := by cases args; simp_all
  obtain ⟨rfl, rfl⟩ := trodVars_none hV
  obtain ⟨a0, len0, cap0, rfl⟩ := okWide_slice Try.underlying22 (hval 0 22 v0 rfl rfl)
  have k0 := h0
  have lt0 : ∀ x ∈ p0, x.block < W.heap.size := by obtain ⟨m, hm⟩ := k0; exact DataW.trod_lt m _ _ _ hm
  obtain ⟨z0, w0⟩ : ∃ zs, IsRow .u32 W a0 len0 cap0 zs := by
    obtain ⟨fuel, hf⟩ := h0
    rcases open_ints Try.underlying22 Try.underlying29 (by kernel_rfl) hf with ⟨hcs, _⟩ | ⟨x, l, c, zs, hcs, _, hl, hm, hz, _, hcell, hwz⟩
    · simp [Value.cells] at hcs
      obtain ⟨rfl, rfl, rfl⟩ := hcs
      exact ⟨[], .inl ⟨rfl, rfl, rfl, rfl⟩⟩
    · simp [Value.cells] at hcs
      obtain ⟨rfl, rfl, rfl⟩ := hcs
      exact ⟨zs, .inr ⟨_, rfl, hl, hm, by simpa using hz, hcell, hwz⟩⟩
  obtain ⟨a1, rfl, rfl, rfl, w1⟩ := open_int Try.underlying3 (hval 1 3 v1 rfl rfl) h1
  obtain ⟨a2, rfl, rfl, rfl, w2⟩ := open_int Try.underlying3 (hval 2 3 v2 rfl rfl) h2
  clear hA0 hval0
  refine (walk a0 len0 cap0 z0 a1 a2 W w0 w1 w2).mono fun e W' ⟨he, bel⟩ => ?_
  subst he
  exact ⟨_, rfl, _, _, _, [], _, [], hW', trodAll_mk1 (shut_bool Try.underlying4 _), (trodAll_cons_mk (Below.trod laidOut (by kernel_rfl) (of_decide_eq_true (by kernel_rfl)) k0 bel lt0) (trodAll_cons_mk (shut_int Try.underlying3 w1) (trodAll_cons_mk (shut_int Try.underlying3 w2) trodAll_mk0))), rfl, bel.frame _, fun h => by cases h⟩

theorem over : Rows.fnRestoreUndoesSetCaptureRow.holds Try.pinned (OpenSpec.ofChange Rows.fnRestoreUndoesSetCaptureSpec) :=
  OpenClaim.holds_of_wide 4 Try.f4 rfl rfl rfl rfl rfl rfl rfl ⟨rfl, rfl, rfl, rfl, rfl⟩ rfl rfl rfl rfl rfl (by kernel_rfl) Try.func4 (by kernel_rfl)
    (of_decide_eq_true (by kernel_rfl)) (by unfold Func.isWrapper; first | (rw [if_pos (by decide +kernel)]; kernel_rfl) | (rw [if_neg (by decide +kernel)]; exact ⟨rfl, rfl⟩))
    (fun os started H enc _ => lifted os started H enc)

/-- ████ THE STATEMENT ████ -/
theorem proved : Rows.FnRestoreUndoesSetCaptureSaid := over
#print axioms proved
end Go.Proofs.Ytfobgfmejfbanaa.fnRestoreUndoesSetCapture
