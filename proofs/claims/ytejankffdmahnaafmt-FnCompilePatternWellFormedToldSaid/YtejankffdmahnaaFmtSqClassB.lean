/-
  A round of zzSeq's loop. Its condition: as the statement says.
-/
import Derived.Test.YtejankffdmahnaaFmtSqDefs
namespace Go.Proofs.YtejankffdmahnaaFmt
open Go.RowKit
set_option linter.unusedVariables false
set_option linter.unusedSimpArgs false

set_option maxRecDepth 1000000 in
set_option maxHeartbeats 4000000 in
theorem sq_classB {w wr : World} {s : ByteArray} {top must : Bool} {i c : Nat} {acc : List Pt} {ao : Option Addr} {cap : Nat} {hd tlq : Bool} {K : Act → World → Prop} (hs : s.size ≤ 4194304) (ih : SIh s c) (hkr : KRow wr w.heap.size ao cap acc) (hb : Below w.heap.size w wr)
    (hcont : ∀ r, PRun (bz s) top c acc tlq r → PTop (bz s) top i must r) (hle : acc.length ≤ c) (hlt : c < s.size) (hK : ∀ a' w' c', c < c' → SFr s top a' → SRel w s top must i w' c' a' → K a' w')
    (h37 : s[c].toNat = 37) (hn : c + 1 < s.size) (hd1 : ¬ (48 ≤ (s[c + 1]'hn).toNat ∧ (s[c + 1]'hn).toNat ≤ 57)) (hd2 : (s[c + 1]'hn).toNat ≠ 98) {r : Option Nat} (hend : clsEnd s c = r) (hstep : ∀ j, r = some j → ∃ (c' : Nat) (p : Pt), c < c' ∧ c' ≤ s.size + 1 ∧ j = min c' s.size ∧ kd p = 1 ∧ ∀ r', PRun (bz s) top c' (acc ++ [p]) tlq r' → PRun (bz s) top c acc tlq r') (f : Nat → Value) :
    sqBody.wp Tryf.prog (Exit.then K (SQ w s top must i)) { tmps := #[.string s, .int .i64 (c : Int), .bool top, f 3, f 4, f 5, f 6, f 7, f 8, f 9, f 10, .int .i64 (s.size : Int), .slice ao acc.length cap, .bool hd, .bool tlq, f 15, f 16, f 17, f 18, f 19, f 20, f 21, f 22, f 23, f 24, f 25, f 26, f 27, f 28, f 29, f 30, f 31, f 32, f 33, f 34, f 35, f 36, f 37, f 38, f 39, f 40, f 41, f 42, f 43, f 44, f 45, f 46, f 47, f 48, f 49, f 50, f 51, f 52, f 53, f 54, f 55, f 56, f 57, f 58, f 59, f 60, f 61, f 62, f 63, f 64, f 65, f 66, f 67, f 68, f 69, f 70, f 71, f 72, f 73, f 74, f 75, f 76, f 77, f 78, f 79, f 80, f 81, f 82, f 83, f 84, f 85, f 86, f 87, f 88, f 89, f 90, f 91, f 92, f 93, f 94, f 95, f 96, f 97, f 98, f 99, f 100, f 101, f 102, f 103, f 104, f 105, f 106, f 107, f 108, f 109, f 110, f 111, f 112, f 113, f 114, f 115, f 116, f 117, f 118, f 119, f 120, f 121, f 122, f 123, f 124, f 125, f 126, f 127, f 128, f 129, f 130, f 131, f 132, f 133, f 134, f 135, f 136, f 137, f 138, f 139, f 140, f 141, f 142, f 143, f 144, f 145, f 146, f 147, f 148, f 149, f 150, f 151, f 152, f 153, f 154, f 155, f 156, f 157, f 158, f 159, f 160, f 161, f 162, f 163, f 164, f 165, f 166, f 167, f 168, f 169, f 170, f 171, f 172, f 173, f 174, f 175, f 176, f 177, f 178, f 179, f 180, f 181, f 182, f 183, f 184, f 185, f 186, f 187, f 188, f 189, f 190, f 191, f 192, f 193, f 194, f 195, f 196, f 197, f 198, f 199, f 200, f 201, f 202, f 203, f 204, f 205, f 206, f 207, f 208, f 209, f 210, f 211, f 212, f 213, f 214, f 215, f 216, f 217, f 218, f 219, f 220, f 221, f 222, f 223, f 224, f 225, f 226, f 227, f 228, f 229, f 230, f 231, f 232, f 233, f 234, f 235, f 236, f 237, f 238, f 239, f 240, f 241, f 242, f 243, f 244, f 245, f 246, f 247, f 248, f 249, f 250, f 251, f 252], defers := [] } wr := by
  obtain ⟨i0, z0, hi, hz0, hz1, hz2, hz3⟩ := zit_parts
  obtain ⟨xs, hx1, hx2⟩ := hkr
  have HX1 := Lib.hid hx1
  have HX2 := Lib.hid hx2
  have HB := Lib.hid hb
  have HC := Lib.hid hcont
  have HK := Lib.hid hK
  have IH := Lib.hid ih
  have hwr : w.heap.size ≤ wr.heap.size := hb.size
  have hlt2 : (c : Int) < (s.size : Int) := by omega
  have hb255 : s[c].toNat < 256 := UInt8.toNat_lt _
  have HZ := Lib.hid (bz_chr s c hlt)
  clear hx1 hx2 hb hcont hK ih
  conv => arg 2; whnf
  have q41 : ((s[c].toNat : Int) == 41) = false := by rw [beq_eq_false_iff_ne]; omega
  have q40 : ((s[c].toNat : Int) == 40) = false := by rw [beq_eq_false_iff_ne]; omega
  have q42 : ((s[c].toNat : Int) == 42) = false := by rw [beq_eq_false_iff_ne]; omega
  have q43 : ((s[c].toNat : Int) == 43) = false := by rw [beq_eq_false_iff_ne]; omega
  have q45 : ((s[c].toNat : Int) == 45) = false := by rw [beq_eq_false_iff_ne]; omega
  have q63 : ((s[c].toNat : Int) == 63) = false := by rw [beq_eq_false_iff_ne]; omega
  have q36 : ((s[c].toNat : Int) == 36) = false := by rw [beq_eq_false_iff_ne]; omega
  have q37 : ((s[c].toNat : Int) == 37) = true := by rw [beq_iff_eq]; omega
  have hn2 : decide ((c : Int) + 1 < (s.size : Int)) = true := decide_eq_true (by omega)
  have hn3 : (c : Int) + 1 < (s.size : Int) := by omega
  have hbn : (s[c + 1]'hn).toNat < 256 := UInt8.toNat_lt _
  have qn : (((s[c + 1]'hn).toNat : Int) == 48) = false := by rw [beq_eq_false_iff_ne]; omega
  have qn3 : (((s[c + 1]'hn).toNat : Int) == 98) = false := by rw [beq_eq_false_iff_ne]; omega
  have hh : (s[c + 1]'hn).toNat < 49 ∨ 57 < (s[c + 1]'hn).toNat := by omega
  have HH := Lib.hid hh
  clear h37 hd1 hd2 hh
  rcases HH.out with hh | hh
  · have qn1 : decide (49 ≤ ((s[c + 1]'hn).toNat : Int)) = false := decide_eq_false (by omega)
    clear hh
    have hC := zcls_any s c wr hs hlt
    rw [hend] at hC
    have HCL := Lib.hid hC
    have HST := Lib.hid hstep
    clear hC hend hstep
    go_wp2_with fail
    refine HCL.out.mono ?_
    rintro e w1 ⟨cs, h256, hbool, hb1, rfl⟩
    have HB1 := Lib.hid (HB.out.trans (hb1.mono HB.out.size))
    have hkw := KRow.below ⟨xs, HX1.out, HX2.out⟩ hb1
    have hw1 : w.heap.size ≤ w1.heap.size := HB1.out.size
    have H2c := Lib.hid h256
    have HBO := Lib.hid hbool
    clear hb1 HX1 HX2 HCL hbool h256
    obtain ⟨xs1, hx1, hx2⟩ := hkw
    have HX1 := Lib.hid hx1
    have HX2 := Lib.hid hx2
    clear hx1 hx2
    go_upto_region 57 with (refine wpList_store_mid rfl 23 (.tmp 26) (.tmp 237) rfl w1.heap.size 0 cs rfl rfl (by rw [H2c.out]; exact (T256.new w1).there) (by rw [H2c.out]; kernel_rfl) (Bools.one HBO) ?_)
    have HW2 := Lib.hid (below_sets (B := w1.heap.size) (b := w1.heap.size) (Nat.le_refl _) cs.toList 0 _ _ ((Below.refl w1.heap.size w1).alloc (Nat.le_refl _) (.cells zT 23)))
    have HT2 := Lib.hid (T256.sets cs.toList 0 _ (T256.new w1) (fun v hv => HBO.out v (by simpa using hv)))
    generalize (w1.alloc (.cells zT 23)).setCells w1.heap.size 0 cs.toList = w2 at *
    have hw2 : w.heap.size ≤ w2.heap.size := Nat.le_trans hw1 HW2.out.size
    have hkw := KRow.below ⟨xs1, HX1.out, HX2.out⟩ HW2.out
    have HB2 := Lib.hid (HB1.out.trans (HW2.out.mono hw1))
    clear HX1 HX2 H2c HBO HB1
    obtain ⟨xs2, hx1, hx2⟩ := hkw
    have HX1 := Lib.hid hx1
    have HX2 := Lib.hid hx2
    obtain ⟨ct, h256, hblk, hbool⟩ := HT2.out
    have HKc := Lib.hid hblk
    have H2c := Lib.hid h256
    obtain ⟨X, hX, hbX⟩ := made_cls 1 ct h256 hbool
    have HBX := Lib.hid hbX
    have HXX := Lib.hid hX
    clear hx1 hx2 h256 hblk hbool hX hbX
    cases r with
    | none =>
      have e0 : clsI none = 0 := rfl
      rw [e0]
      go_wp2_with fail
      exact ⟨rfl, none, 0, 0, c, false, false, false, rfl, rfl, rfl, rfl, rfl, sq_no HB2.out (by omega)⟩
    | some j =>
      have e0 : clsI (some j) = (j : Int) := rfl
      rw [e0]
      obtain ⟨c', p, hcc, hcs, hj, hkp, hst⟩ := HST.out j rfl
      have HST2 := Lib.hid hst
      have HXX : Hid (IsIt (kd p) X) := Lib.hid (by rw [hkp]; exact HXX.out)
      have HJ := Lib.hid hj
      clear HST hst hkp hj
      go_upto_region 59 with (fail)
      go_upto_region 60 with (first | (refine wpList_load_row rfl 23 (.tmp 26) rfl w1.heap.size rfl 23 ct (0, 0) _ HKc.out Tryf.underlying23 rfl (by rw [H2c.out]; kernel_rfl) ?_) | (refine wpList_buildTo rfl 53 #[(0, .const (.int .i64 1)), (4, .tmp 244)] rfl (some 245) rfl X (by rw [Array.toList_map]; exact HBX.out) ?_; refine wpList_buildSlice rfl 28 53 1 #[(0, .tmp 245)] rfl X i0 z0 Tryf.underlying28 hi hz0 (by rw [hz1]; decide) (by rw [hz1]; decide) (by rw [Array.toList_map]; exact one_fill HXX.out z0 hz1) ?_; refine wpList_push _ rfl (.tmp 243) (.tmp 246) 28 rfl w.heap.size 53 i0 z0 261 312 Tryf.underlying28 hi hz0 hz1 hz2 hz3 (by decide) ao acc.length cap xs2 rfl (HX1.out.alloc _) ⟨_, 0, none⟩ 1 1 X.toList rfl (by rw [Array.length_toList, HXX.out.size]) (by first | exact news_x (by simp) | exact news_xd (by simp) | exact news_x rfl) (one_all HXX.out) (by decide) (by unfold maxLen; omega) (by omega) (by simp; omega) ?_; intro g1 c1 w8 hown hgrow hwhere; have HO := Lib.hid hown; have HGw := Lib.hid hgrow; clear hown hgrow hwhere))
      go_wp2_with fail
      have hbl := below_grown (HB2.out.alloc hw2 _) (Nat.le_refl _) HGw.out (zrow_ne HX1.out)
      have hkr2 := KRow.push (p := p) HO.out HX2.out HXX.out HX1.out.1
      refine HK.out _ _ c' hcc ⟨rfl, rfl, rfl, rfl, rfl⟩ ⟨acc ++ [p], some ⟨g1, 0, none⟩, c1, hd, tlq, ?_, ?_, ?_, ?_, ?_, ?_, ?_, ?_, ?_⟩
      · exact int_is (by rw [HJ.out])
      · rw [List.length_append]; rfl
      · rfl
      · rfl
      · exact hkr2
      · exact hbl
      · exact fun r h => HC.out r (HST2.out r h)
      · rw [List.length_append, List.length_singleton]; omega
      · omega
  · have qn1 : decide (49 ≤ ((s[c + 1]'hn).toNat : Int)) = true := decide_eq_true (by omega)
    have qn2 : decide (((s[c + 1]'hn).toNat : Int) ≤ 57) = false := decide_eq_false (by omega)
    clear hh
    have hC := zcls_any s c wr hs hlt
    rw [hend] at hC
    have HCL := Lib.hid hC
    have HST := Lib.hid hstep
    clear hC hend hstep
    go_wp2_with fail
    refine HCL.out.mono ?_
    rintro e w1 ⟨cs, h256, hbool, hb1, rfl⟩
    have HB1 := Lib.hid (HB.out.trans (hb1.mono HB.out.size))
    have hkw := KRow.below ⟨xs, HX1.out, HX2.out⟩ hb1
    have hw1 : w.heap.size ≤ w1.heap.size := HB1.out.size
    have H2c := Lib.hid h256
    have HBO := Lib.hid hbool
    clear hb1 HX1 HX2 HCL hbool h256
    obtain ⟨xs1, hx1, hx2⟩ := hkw
    have HX1 := Lib.hid hx1
    have HX2 := Lib.hid hx2
    clear hx1 hx2
    go_upto_region 57 with (refine wpList_store_mid rfl 23 (.tmp 26) (.tmp 237) rfl w1.heap.size 0 cs rfl rfl (by rw [H2c.out]; exact (T256.new w1).there) (by rw [H2c.out]; kernel_rfl) (Bools.one HBO) ?_)
    have HW2 := Lib.hid (below_sets (B := w1.heap.size) (b := w1.heap.size) (Nat.le_refl _) cs.toList 0 _ _ ((Below.refl w1.heap.size w1).alloc (Nat.le_refl _) (.cells zT 23)))
    have HT2 := Lib.hid (T256.sets cs.toList 0 _ (T256.new w1) (fun v hv => HBO.out v (by simpa using hv)))
    generalize (w1.alloc (.cells zT 23)).setCells w1.heap.size 0 cs.toList = w2 at *
    have hw2 : w.heap.size ≤ w2.heap.size := Nat.le_trans hw1 HW2.out.size
    have hkw := KRow.below ⟨xs1, HX1.out, HX2.out⟩ HW2.out
    have HB2 := Lib.hid (HB1.out.trans (HW2.out.mono hw1))
    clear HX1 HX2 H2c HBO HB1
    obtain ⟨xs2, hx1, hx2⟩ := hkw
    have HX1 := Lib.hid hx1
    have HX2 := Lib.hid hx2
    obtain ⟨ct, h256, hblk, hbool⟩ := HT2.out
    have HKc := Lib.hid hblk
    have H2c := Lib.hid h256
    obtain ⟨X, hX, hbX⟩ := made_cls 1 ct h256 hbool
    have HBX := Lib.hid hbX
    have HXX := Lib.hid hX
    clear hx1 hx2 h256 hblk hbool hX hbX
    cases r with
    | none =>
      have e0 : clsI none = 0 := rfl
      rw [e0]
      go_wp2_with fail
      exact ⟨rfl, none, 0, 0, c, false, false, false, rfl, rfl, rfl, rfl, rfl, sq_no HB2.out (by omega)⟩
    | some j =>
      have e0 : clsI (some j) = (j : Int) := rfl
      rw [e0]
      obtain ⟨c', p, hcc, hcs, hj, hkp, hst⟩ := HST.out j rfl
      have HST2 := Lib.hid hst
      have HXX : Hid (IsIt (kd p) X) := Lib.hid (by rw [hkp]; exact HXX.out)
      have HJ := Lib.hid hj
      clear HST hst hkp hj
      go_upto_region 59 with (fail)
      go_upto_region 60 with (first | (refine wpList_load_row rfl 23 (.tmp 26) rfl w1.heap.size rfl 23 ct (0, 0) _ HKc.out Tryf.underlying23 rfl (by rw [H2c.out]; kernel_rfl) ?_) | (refine wpList_buildTo rfl 53 #[(0, .const (.int .i64 1)), (4, .tmp 244)] rfl (some 245) rfl X (by rw [Array.toList_map]; exact HBX.out) ?_; refine wpList_buildSlice rfl 28 53 1 #[(0, .tmp 245)] rfl X i0 z0 Tryf.underlying28 hi hz0 (by rw [hz1]; decide) (by rw [hz1]; decide) (by rw [Array.toList_map]; exact one_fill HXX.out z0 hz1) ?_; refine wpList_push _ rfl (.tmp 243) (.tmp 246) 28 rfl w.heap.size 53 i0 z0 261 312 Tryf.underlying28 hi hz0 hz1 hz2 hz3 (by decide) ao acc.length cap xs2 rfl (HX1.out.alloc _) ⟨_, 0, none⟩ 1 1 X.toList rfl (by rw [Array.length_toList, HXX.out.size]) (by first | exact news_x (by simp) | exact news_xd (by simp) | exact news_x rfl) (one_all HXX.out) (by decide) (by unfold maxLen; omega) (by omega) (by simp; omega) ?_; intro g1 c1 w8 hown hgrow hwhere; have HO := Lib.hid hown; have HGw := Lib.hid hgrow; clear hown hgrow hwhere))
      go_wp2_with fail
      have hbl := below_grown (HB2.out.alloc hw2 _) (Nat.le_refl _) HGw.out (zrow_ne HX1.out)
      have hkr2 := KRow.push (p := p) HO.out HX2.out HXX.out HX1.out.1
      refine HK.out _ _ c' hcc ⟨rfl, rfl, rfl, rfl, rfl⟩ ⟨acc ++ [p], some ⟨g1, 0, none⟩, c1, hd, tlq, ?_, ?_, ?_, ?_, ?_, ?_, ?_, ?_, ?_⟩
      · exact int_is (by rw [HJ.out])
      · rw [List.length_append]; rfl
      · rfl
      · rfl
      · exact hkr2
      · exact hbl
      · exact fun r h => HC.out r (HST2.out r h)
      · rw [List.length_append, List.length_singleton]; omega
      · omega
end Go.Proofs.YtejankffdmahnaaFmt
