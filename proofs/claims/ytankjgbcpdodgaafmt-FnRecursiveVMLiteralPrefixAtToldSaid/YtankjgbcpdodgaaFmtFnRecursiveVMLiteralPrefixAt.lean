/-
  The given statement on FnRecursiveVMLiteralPrefixAt: for every input the law returns true and leaves its arguments as they were. No condition beyond the statement's own; no text of fmt is come to.
-/
import Derived.Test.YtankjgbcpdodgaaFmtNil
import Derived.Laws.IdiomStrings
import Derived.BigGuardPart
import Derived.Test.YtankjgbcpdodgaaFmtRows
import Derived.Test.YtankjgbcpdodgaaFmtCards
import Derived.WalkKit
import Derived.ProofKit
import Derived.OpenShut
import Derived.ShutString
import Derived.ChangeOld
import Derived.Below
import Derived.Stop.JoinedAt
import Derived.Stop.JoinedTold
import Derived.SevenToldRow
namespace Go.Proofs.YtankjgbcpdodgaaFmt.fnRecursiveVMLiteralPrefixAt
open Go.ChangeShapes Go.WideShapes Go.ChangeAt Go.RowKit
open Go.ChangeMaps (open_string shut_string)
open Go.Extern.Stop Go.Stop Go.Extern
set_option linter.unusedVariables false
set_option linter.unusedSimpArgs false

theorem own : ownKnob Tryf.prog.godebug = none := by kernel_rfl
theorem laidOut : laidOutB Tryf.prog = true := by kernel_rfl
theorem stops : Tryf.pinned.checked.prog.stops = ["fmt.Sprintf, its operands' methods called"] := by kernel_rfl
theorem stopKnobs : Tryf.pinned.checked.prog.stopKnobs = [] := by kernel_rfl
theorem quiet (os : Os) : Stop.quiet Tryf.pinned.checked.prog os := by
  intro k hk
  rw [stopKnobs] at hk
  cases hk

/-- What the walk is told of a slice of integers that came in. -/
def IsRow (k : IntKind) (w : World) (a : Option Addr) (len cap : Nat) (zs : List Int) : Prop :=
  (a = none ∧ len = 0 ∧ cap = 0 ∧ zs = []) ∨
  ∃ x, a = some x ∧ len ≤ cap ∧ cap ≤ maxLen ∧ zs.length = cap ∧ (∀ i, i < zs.length → w.cell? (x.add i) = some (.int k (zs.getD i 0))) ∧ ∀ n ∈ zs, (Lit.int k n).wf = true

/-- What 'IsRow' says, over the elements alone. -/
theorem isRow_told {k : IntKind} {w : World} {a : Option Addr} {len cap : Nat} {zs : List Int} (h : IsRow k w a len cap zs) :
    ∃ ys : List Int, ys.length = len ∧ RowInt k w a ys ∧ (a = none → ys.length = 0) ∧ len ≤ 9223372036854775807 ∧ (∀ n, n ∈ ys → (Lit.int k n).wf = true) := by
  rcases h with ⟨rfl, rfl, rfl, rfl⟩ | ⟨x, rfl, hl, hm, hz, hcell, hwz⟩
  · exact ⟨[], rfl, fun h0 => absurd h0 (Nat.lt_irrefl _), fun _ => rfl, by omega, fun n hn => by simp at hn⟩
  · refine ⟨zs.take len, by simp; omega, fun h0 => ?_, fun h0 => (by cases h0), by unfold maxLen at hm; omega, fun n hn => hwz n (List.mem_of_mem_take hn)⟩
    have h0' : 0 < len := by simp at h0; omega
    have hsp : x.spot = none := by simpa [Addr.add] using World.cell?_spot (hcell 0 (by omega))
    obtain ⟨b, off, spot⟩ := x
    simp only at hsp
    subst hsp
    refine ⟨b, off, rfl, fun i hi => ?_⟩
    have h1 := hcell i (by simp at hi; omega)
    rw [addr_add] at h1
    rw [h1]
    simp only [List.length_take] at hi
    rw [List.getD_eq_getElem?_getD, List.getD_eq_getElem?_getD, List.getElem?_take_of_lt (by omega)]

theorem guard_any (s : ByteArray) (a : Option Addr) (n cap : Nat) (x : Int) (hs : s.size ≤ 9223372036854775807) (hn : n ≤ 9223372036854775807) (w : World) : Calls Tryf.prog 16 #[.string s, .slice a n cap, .int .i64 x] w fun e w' => e = .returned (.bool (decide (s.size + n ≤ 1048576))) ∧ w = w' := by
  rcases (show 1048576 < s.size ∨ (s.size ≤ 1048576 ∧ 1048576 < n) ∨ (s.size ≤ 1048576 ∧ n ≤ 1048576 ∧ 1048576 < s.size + n) ∨ s.size + n ≤ 1048576 by omega) with h | ⟨h, h'⟩ | ⟨h, h', h''⟩ | h
  all_goals
    go_enter Tryf.func16, Tryf.ntmps16
    go_wp2
    go_ret
    exact ⟨ret_bool (by simp; omega), rfl⟩
theorem capLen_is {w : World} {m cap : Nat} {ao : Option Addr} {us : List Int} {z : Int} (h : MD w m ao cap us) (hz : (us.length : Int) = z) :
    Calls Tryf.prog 12 #[.pointer (some ⟨m, 0, none⟩)] w fun e w' => e = .returned (.int .i64 z) ∧ w = w' := hz ▸ capLen_any h
theorem cap_z {w : World} {m cap : Nat} {ao : Option Addr} {us : List Int} {iz v : Int} (i : Nat) (h : MD w m ao cap us) (hi : i < us.length) (hiz : iz = (i : Int)) (hv : us.getD i 0 / 2 = v) :
    Calls Tryf.prog 14 #[.pointer (some ⟨m, 0, none⟩), .int .i64 iz] w fun e w' => e = .returned (.int .i64 v) ∧ w = w' := by subst hiz; exact cap_is i v h hi (Lib.hid hv)
theorem pos_z {w : World} {m cap : Nat} {ao : Option Addr} {us : List Int} {iz : Int} {v : Bool} (i : Nat) (h : MD w m ao cap us) (hi : i < us.length) (hiz : iz = (i : Int)) (hv : (us.getD i 0 % 2 == 1) = v) :
    Calls Tryf.prog 15 #[.pointer (some ⟨m, 0, none⟩), .int .i64 iz] w fun e w' => e = .returned (.bool v) ∧ w = w' := by subst hiz; exact isPos_is i v h hi (Lib.hid hv)
theorem capW_small {n : Nat} (h : n ≤ 131072) : capW (n : Int) / 2 = n := by unfold capW; omega
theorem cap_sum {a b : Nat} (h : a + b ≤ 131072) : capW ((a + b : Nat) : Int) / 2 = (a : Int) + (b : Int) := by rw [capW_small h]; exact Int.natCast_add _ _
theorem lit_slots (tail : Bool) (L : List Int) : ∀ i, i ∈ litProg tail L → slotOk i := by
  intro i hi
  unfold litProg progOf at hi
  cases tail
  · simp only [Bool.false_eq_true, if_false, List.mem_append, List.mem_cons, List.not_mem_nil, or_false, chrs, List.mem_map] at hi
    rcases hi with (hi | ⟨z, _, hi⟩) | hi | hi <;> subst hi <;> simp [slotOk]
  · simp only [if_true, List.mem_append, List.mem_cons, List.not_mem_nil, or_false, chrs, List.mem_map] at hi
    rcases hi with ((hi | ⟨z, _, hi⟩) | hi | hi) | hi | hi <;> subst hi <;> simp [slotOk]
/-- What the machine needs stands behind the copy and the compiling. -/
theorem env_mk {w w1 w2 : World} {a' ao : Option Addr} {zs : List Int} {m cap : Nat} {J : List Ins} {ys : List Value} (hr : RowInt .u8 w1 a' zs) (hf : Fresh w.heap.size w1 a') (hb2 : Below w1.heap.size w1 w2) (hown : w2.ownsRow 0 69 4 (.slice ao J.length cap) J.length ys) (hels : InssAt (CX m ao) w2 J ys)
    (hby : ∀ z, z ∈ zs → 0 ≤ z ∧ z ≤ 255) (hl : zs.length ≤ 65536) (hsl : ∀ i, i ∈ J → slotOk i) : VEnv w2 (fun _ => False) a' zs ao cap J ys ∧ ∀ x, a' = some x → x.block < w2.heap.size :=
  ⟨⟨hr.below hb2 (Nat.le_refl _), fun _ _ h => h, hown, fun _ _ h => h, hels.kept (fun _ _ _ h => h) (fun _ _ h => h.elim), hby, by omega, hsl⟩, fun x hx => Nat.lt_of_lt_of_le (hf x hx).2 hb2.size⟩
theorem comp_tail (s : ByteArray) (W : World) (hs : s.size ≤ 4096) (hp : Hid ((bz s).all plainZ = true)) : Calls Tryf.prog 10 #[.string (s ++ ⟨#[36]⟩)] W (ProgPost W (litProg true (bz s))) := by
  have h1 : (s ++ ⟨#[36]⟩ : ByteArray).size = s.size + 1 := ByteArray.size_append
  have h2 : bz (s ++ ⟨#[36]⟩) = bz s ++ [36] := bz_append _ _
  have h3 := tail_ptop (bz s) (fun z hz => List.all_eq_true.1 hp.out z hz)
  rw [← h2] at h3
  have h4 := lit_crun (bz s) [.save 0] 2
  have h5 : ([Ins.save 0] ++ chrs (bz s)).length ≤ 8388608 := by rw [List.length_append]; simp only [chrs, List.length_map, bz_length, List.length_singleton]; omega
  have h6 : 0 < (s ++ ⟨#[36]⟩ : ByteArray).size := by omega
  have h7 : (s ++ ⟨#[36]⟩ : ByteArray).size ≤ 4194304 := by omega
  unfold litProg
  generalize s ++ ⟨#[36]⟩ = t at *
  generalize [Ins.save 0] ++ chrs (bz s) = I' at *
  exact comp_any t W h6 h7 h3 h4 h5 (by decide)
theorem allPlain_is (s : ByteArray) (w : World) (hs : s.size ≤ 4194304) {v : Bool} (hv : Hid ((bz s).all plainZ = v)) : Calls Tryf.prog 8 #[.string s] w fun e w' => e = .returned (.bool v) ∧ w = w' := hv.out ▸ allPlain_any s w hs

set_option maxHeartbeats 1000000
set_option maxRecDepth 100000
/-! ### THE WALK -/
theorem walk (a0 : ByteArray) (a1 : Option Addr) (len1 cap1 : Nat) (z1 : List Int) (a2 : Int) (w : World) (w0 : a0.size ≤ maxLen) (w1 : IsRow .u8 w a1 len1 cap1 z1) (w2 : (Lit.int .i64 a2).wf = true) :
    Calls Tryf.prog 4 #[.string a0, .slice a1 len1 cap1, .int .i64 a2] w fun e w' => e = .returned (.bool true) ∧ Below w.heap.size w w' := by
  obtain ⟨ys, rfl, hrow, hnil, hmx, hwf⟩ := isRow_told w1
  have hby : ∀ z, z ∈ ys → 0 ≤ z ∧ z ≤ 255 := fun z hz => bounds_u8 (hwf z hz)
  unfold maxLen at w0
  clear hwf w1
  have HBY := Lib.hid hby
  have HROW := Lib.hid hrow
  have HNIL := Lib.hid hnil
  clear hby hrow hnil
  rcases (show 1048576 < a0.size + ys.length ∨ (a0.size + ys.length ≤ 1048576 ∧ 4096 < a0.size) ∨ (a0.size + ys.length ≤ 1048576 ∧ a0.size ≤ 4096 ∧ 65536 < ys.length) ∨ (a0.size ≤ 4096 ∧ ys.length ≤ 65536) by omega) with q | ⟨q, q'⟩ | ⟨q, q', q''⟩ | ⟨q, q'⟩
  · have tb : decide (a0.size + ys.length ≤ 1048576) = false := decide_eq_false (by omega)
    go_enter Tryf.func4, Tryf.ntmps4
    go_wp2_with (go_at_call 16; refine (guard_any _ _ _ _ _ (by omega) (by omega) _).mono ?_; rintro e w' ⟨rfl, rfl⟩)
    go_ret
    exact ⟨rfl, Below.refl _ _⟩
  · have tb : decide (a0.size + ys.length ≤ 1048576) = true := decide_eq_true (by omega)
    go_enter Tryf.func4, Tryf.ntmps4
    go_wp2_with (go_at_call 16; refine (guard_any _ _ _ _ _ (by omega) (by omega) _).mono ?_; rintro e w' ⟨rfl, rfl⟩)
    go_ret
    exact ⟨rfl, Below.refl _ _⟩
  · have tb : decide (a0.size + ys.length ≤ 1048576) = true := decide_eq_true (by omega)
    go_enter Tryf.func4, Tryf.ntmps4
    go_wp2_with (go_at_call 16; refine (guard_any _ _ _ _ _ (by omega) (by omega) _).mono ?_; rintro e w' ⟨rfl, rfl⟩)
    go_ret
    exact ⟨rfl, Below.refl _ _⟩
  · have tb : decide (a0.size + ys.length ≤ 1048576) = true := decide_eq_true (by omega)
    rcases (show a2 < 0 ∨ (0 ≤ a2 ∧ (ys.length : Int) < a2) ∨ (0 ≤ a2 ∧ a2 ≤ (ys.length : Int)) by omega) with p | ⟨p, p'⟩ | ⟨p, p'⟩
    · go_enter Tryf.func4, Tryf.ntmps4
      go_wp2_with (go_at_call 16; refine (guard_any _ _ _ _ _ (by omega) (by omega) _).mono ?_; rintro e w' ⟨rfl, rfl⟩)
      go_ret
      exact ⟨rfl, Below.refl _ _⟩
    · go_enter Tryf.func4, Tryf.ntmps4
      go_wp2_with (go_at_call 16; refine (guard_any _ _ _ _ _ (by omega) (by omega) _).mono ?_; rintro e w' ⟨rfl, rfl⟩)
      go_ret
      exact ⟨rfl, Below.refl _ _⟩
    · obtain ⟨sp, rfl⟩ : ∃ sp : Nat, a2 = (sp : Int) := ⟨a2.toNat, by omega⟩
      cases hpl : (bz a0).all plainZ with
      | false =>
        have HPL := Lib.hid hpl
        clear hpl
        go_enter Tryf.func4, Tryf.ntmps4
        go_wp2_with (first | (go_at_call 16; refine (guard_any _ _ _ _ _ (by omega) (by omega) _).mono ?_; rintro e w' ⟨rfl, rfl⟩) | (go_at_call 8; refine (allPlain_is _ _ (by omega) HPL).mono ?_; rintro e w' ⟨rfl, rfl⟩))
        go_ret
        exact ⟨rfl, Below.refl _ _⟩
      | true =>
        have HPL := Lib.hid hpl
        have hspl : sp ≤ ys.length := by omega
        clear hpl p p'
        go_enter Tryf.func4, Tryf.ntmps4
        go_wp2_with (first | (go_at_call 16; refine (guard_any _ _ _ _ _ (by omega) (by omega) _).mono ?_; rintro e w' ⟨rfl, rfl⟩) | (go_at_call 8; refine (allPlain_is _ _ (by omega) HPL).mono ?_; rintro e w' ⟨rfl, rfl⟩))
        refine (cpB_any a1 cap1 ys w HROW.out HNIL.out (by omega)).mono ?_
        rintro e w1 ⟨a', c', rfl, hn', hf', hr', hb1⟩
        have HF := Lib.hid hf'
        have HR1 := Lib.hid hr'
        have HB1 := Lib.hid hb1
        clear hn' hf' hr' hb1
        go_wp2_with fail
        refine (comp_lit a0 w1 (by omega) HPL.out).mono ?_
        rintro e w2 ⟨mi, ao, icap, ys2, rfl, hown, hels, hb2, hrw2, hmi⟩
        obtain ⟨hve, hvs⟩ := env_mk HR1.out HF.out hb2 (J := litProg false (bz a0)) hown hels HBY.out (by omega) (lit_slots _ _)
        have HVE := Lib.hid hve
        have HVS := Lib.hid hvs
        have HB2 := Lib.hid (HB1.out.trans (hb2.mono HB1.out.size))
        have HR2 := Lib.hid (HR1.out.below hb2 (Nat.le_refl _))
        obtain ⟨nv, hvr⟩ := lit_vrun ys (bz a0) sp
        have HVR := Lib.hid hvr
        obtain ⟨rr, hrr⟩ : ∃ rr, litRes ys (bz a0) sp = rr := ⟨_, rfl⟩
        have HRR := Lib.hid hrr
        clear hown hels hb2 hrw2 hmi hve hvs hvr hrr
        go_wp2_with fail
        refine (vmc_any HVE.out HVS.out HVR.out hspl (by omega)).mono ?_
        rw [HRR.out]
        rintro e w3 ⟨m, ao3, cap3, rfl, hmd, hb3, hm3, hr3⟩
        have HMD := Lib.hid hmd
        have HB3 := Lib.hid (HB2.out.trans (hb3.mono HB2.out.size))
        have HR3 := Lib.hid (HR2.out.below hb3 (Nat.le_refl _))
        clear hmd hb3 hm3 hr3
        cases ho : occ ys (bz a0) sp with
        | true =>
          have hoi := (occ_iff ys (bz a0) sp hspl).1 ho
          rw [bz_length] at hoi
          have hoi1 := hoi.1
          have hE : rr = (true, sp + a0.size, [capW sp, capW (sp + a0.size : Nat)]) := by rw [← HRR.out]; unfold litRes; rw [ho, if_pos rfl, bz_length]
          subst hE
          have HO := Lib.hid ho
          clear ho hoi
          go_wp2_with fail
          refine (occurs_any a' ys c' sp a0 _ HR3.out hspl (by omega) (by omega) HBY.out).mono ?_
          rw [HO.out]
          rintro e w4 ⟨rfl, kd, rfl⟩
          have HMD4 := Lib.hid (HMD.out.drewO kd)
          have HB4 := Lib.hid (below_drewN HB3.out kd)
          generalize w3.drewN kd = w4 at *
          clear HMD HB3 HR3
          have HMD := HMD4
          go_wp2_with (first | (go_at_call 12; refine (capLen_is HMD.out (z := 2) (by simp)).mono ?_; rintro e w' ⟨rfl, rfl⟩) | (go_at_call 15; refine (pos_z 0 HMD.out (v := false) (by simp) (by rfl) (capW_flag _)).mono ?_; rintro e w' ⟨rfl, rfl⟩) | (go_at_call 15; refine (pos_z 1 HMD.out (v := false) (by simp) (by rfl) (capW_flag _)).mono ?_; rintro e w' ⟨rfl, rfl⟩) | (go_at_call 14; refine (cap_z 0 HMD.out (v := (sp : Int)) (by simp) (by rfl) (capW_small (by omega))).mono ?_; rintro e w' ⟨rfl, rfl⟩) | (go_at_call 14; refine (cap_z 1 HMD.out (v := (sp : Int) + (a0.size : Int)) (by simp) (by rfl) (cap_sum (by omega))).mono ?_; rintro e w' ⟨rfl, rfl⟩))
          go_ret
          exact ⟨rfl, HB4.out⟩
        | false =>
          have hE : rr = (false, sp, [0]) := by rw [← HRR.out]; unfold litRes; rw [ho]; rfl
          subst hE
          have HO := Lib.hid ho
          clear ho
          go_wp2_with fail
          refine (occurs_any a' ys c' sp a0 _ HR3.out hspl (by omega) (by omega) HBY.out).mono ?_
          rw [HO.out]
          rintro e w4 ⟨rfl, kd, rfl⟩
          have HMD4 := Lib.hid (HMD.out.drewO kd)
          have HB4 := Lib.hid (below_drewN HB3.out kd)
          generalize w3.drewN kd = w4 at *
          clear HMD HB3 HR3
          have HMD := HMD4
          go_wp2_with (first | (go_at_call 12; refine (capLen_is HMD.out (z := 1) (by simp)).mono ?_; rintro e w' ⟨rfl, rfl⟩) | (go_at_call 14; refine (cap_z 0 HMD.out (v := 0) (by simp) (by rfl) (by rfl)).mono ?_; rintro e w' ⟨rfl, rfl⟩) | (go_at_call 15; refine (pos_z 0 HMD.out (v := false) (by simp) (by rfl) (by rfl)).mono ?_; rintro e w' ⟨rfl, rfl⟩))
          go_ret
          exact ⟨rfl, HB4.out⟩

/-! ### THE ROW's STEP -/
set_option maxRecDepth 100000 in
theorem lifted (os : Os) (started : os.Started) (H : Type) (enc : TypeId × Value → H) :
    ReturnsInTold none {} Tryf.checked os 4 .any Input.okWide ((OpenSpec.ofChange Rows.fnRecursiveVMLiteralPrefixAtSpec).preRow enc Tryf.prog Tryf.f4 [] false []) (fun G => ((OpenSpec.ofChange Rows.fnRecursiveVMLiteralPrefixAtSpec).at G).post enc Tryf.prog Tryf.f4 false true false false) (aloneAtReturn Tryf.prog) nothingAlways := by
  refine returnsInTold_of_row (C := Tryf.checked) (s := OpenSpec.ofChange Rows.fnRecursiveVMLiteralPrefixAtSpec) (by kernel_rfl) own started (by kernel_rfl) Tryf.func4
    (OpenSpec.witness_stopped (enc := enc) (C := Tryf.checked) false ⟨#[], #[.string ByteArray.empty, .slice none 0 0, .int .i64 0], []⟩ 8 (by kernel_rfl) (by kernel_rfl) (by kernel_rfl) (by kernel_rfl)) ?_
  intro G W base args ds gs before _ hF hval0 hW _ _ _ _ _
  have hval : ∀ (j : Nat) t v, Tryf.f4.params[j]? = some t → args[j]? = some v → Value.okWide Tryf.prog W .any base t v := hval0
  have hW' := hW
  obtain ⟨p, q, hA0, hV, rfl, hfz, hnd⟩ := hW
  have hA : DataW.TrodAll enc Tryf.prog W 0 (fun _ => true) true Tryf.f4.params.toList args.toList ds p := hA0
  rw [Tryf.params4] at hA hval
  obtain ⟨v0, vs0, d0, ds0, p0, q0, hargs, rfl, rfl, h0, r0⟩ := trodAll_cons hA
  obtain ⟨v1, vs1, d1, ds1, p1, q1, rfl, rfl, rfl, h1, r1⟩ := trodAll_cons r0
  obtain ⟨v2, vs2, d2, ds2, p2, q2, rfl, rfl, rfl, h2, r2⟩ := trodAll_cons r1
  obtain ⟨rfl, rfl, rfl⟩ := trodAll_nil r2
  obtain rfl : args = #[v0, v1, v2] := by cases args; simp_all
  obtain ⟨rfl, rfl⟩ := trodVars_none hV
  obtain ⟨a0, rfl, rfl, rfl, w0⟩ := open_string Tryf.underlying9 (hval 0 9 v0 rfl rfl) h0
  obtain ⟨a1, len1, cap1, rfl⟩ := okWide_slice Tryf.underlying22 (hval 1 22 v1 rfl rfl)
  have k1 := h1
  have lt1 : ∀ x ∈ p1, x.block < W.heap.size := by obtain ⟨m, hm⟩ := k1; exact DataW.trod_lt m _ _ _ hm
  obtain ⟨z1, w1⟩ : ∃ zs, IsRow .u8 W a1 len1 cap1 zs := by
    obtain ⟨fuel, hf⟩ := h1
    rcases open_ints Tryf.underlying22 Tryf.underlying5 (by kernel_rfl) hf with ⟨hcs, _⟩ | ⟨x, l, c, zs, hcs, _, hl, hm, hz, _, hcell, hwz⟩
    · simp [Value.cells] at hcs
      obtain ⟨rfl, rfl, rfl⟩ := hcs
      exact ⟨[], .inl ⟨rfl, rfl, rfl, rfl⟩⟩
    · simp [Value.cells] at hcs
      obtain ⟨rfl, rfl, rfl⟩ := hcs
      exact ⟨zs, .inr ⟨_, rfl, hl, hm, by simpa using hz, hcell, hwz⟩⟩
  obtain ⟨a2, rfl, rfl, rfl, w2⟩ := open_int Tryf.underlying3 (hval 2 3 v2 rfl rfl) h2
  clear hA0 hval0
  refine (walk a0 a1 len1 cap1 z1 a2 W w0 w1 w2).mono fun e W' ⟨he, bel⟩ => ?_
  subst he
  exact ⟨_, rfl, _, _, _, [], _, [], hW', trodAll_mk1 (shut_bool Tryf.underlying4 _), (trodAll_cons_mk (shut_string Tryf.underlying9 w0) (trodAll_cons_mk (Below.trod laidOut (by kernel_rfl) (of_decide_eq_true (by kernel_rfl)) k1 bel lt1) (trodAll_cons_mk (shut_int Tryf.underlying3 w2) trodAll_mk0))), rfl, bel.frame _, fun h => by cases h⟩

/-- ████ THE STATEMENT ████ -/
theorem proved : Rows.FnRecursiveVMLiteralPrefixAtToldSaid :=
  Claim7.holds_of_told_any 4 Tryf.f4 "fmt.Sprintf, its operands' methods called" [] [] (true, "34b94395d7252693a5ce94132afb07188437961119665ac3de06d967ac166f6d") true false (by kernel_rfl) rfl rfl rfl laidOut (by kernel_rfl) rfl ⟨rfl, rfl, rfl, rfl, rfl, rfl, rfl⟩ rfl rfl (by kernel_rfl) (by kernel_rfl) Tryf.func4 (by kernel_rfl)
    (of_decide_eq_true (by kernel_rfl)) (by unfold Func.isWrapper; first | (rw [if_pos (by decide +kernel)]; kernel_rfl) | (rw [if_neg (by decide +kernel)]; exact ⟨rfl, rfl⟩)) stops.symm rfl stopKnobs.symm (by kernel_rfl)
    (by kernel_rfl) (by kernel_rfl) (by kernel_rfl) (by kernel_rfl) (by kernel_rfl) (by kernel_rfl) (by kernel_rfl) (by kernel_rfl) (by kernel_rfl) rfl (by kernel_rfl) rfl rfl
    rfl rfl
    rfl (by kernel_rfl) (by kernel_rfl) (by kernel_rfl) (by decide) (by kernel_rfl)
    (OpenClaim.moreEntering_of (by kernel_rfl) (by kernel_rfl) (by kernel_rfl) (by kernel_rfl) (by kernel_rfl) (by kernel_rfl) (by kernel_rfl) (by kernel_rfl) (by kernel_rfl) (by kernel_rfl))
    ⟨_, WideRow.started_initial, quiet _⟩
    (fun os started _ H enc _ => lifted os started H enc)
#print axioms proved
end Go.Proofs.YtankjgbcpdodgaaFmt.fnRecursiveVMLiteralPrefixAt
