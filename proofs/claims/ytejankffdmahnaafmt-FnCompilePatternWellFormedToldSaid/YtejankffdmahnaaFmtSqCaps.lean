/-
  Rounds of zzSeq's loop: a capture. Conditions as each statement says.
-/
import Derived.Test.YtejankffdmahnaaFmtSqDefs
namespace Go.Proofs.YtejankffdmahnaaFmt
open Go.RowKit
set_option linter.unusedVariables false
set_option linter.unusedSimpArgs false


set_option maxRecDepth 1000000 in
set_option maxHeartbeats 4000000 in
theorem sq_capA {w wr : World} {s : ByteArray} {top must : Bool} {i c : Nat} {acc : List Pt} {ao : Option Addr} {cap : Nat} {hd tlq : Bool} {K : Act → World → Prop} (hs : s.size ≤ 4194304) (ih : SIh s c) (hkr : KRow wr w.heap.size ao cap acc) (hb : Below w.heap.size w wr)
    (hcont : ∀ r, PRun (bz s) top c acc tlq r → PTop (bz s) top i must r) (hle : acc.length ≤ c) (hlt : c < s.size) (hK : ∀ a' w' c', c < c' → SFr s top a' → SRel w s top must i w' c' a' → K a' w')
    (h40 : s[c].toNat = 40) (hnx : chr (bz s) (c + 1) ≠ 41) (hn : c + 1 < s.size) (f : Nat → Value) :
    sqBody.wp Tryf.prog (Exit.then K (SQ w s top must i)) { tmps := #[.string s, .int .i64 (c : Int), .bool top, f 3, f 4, f 5, f 6, f 7, f 8, f 9, f 10, .int .i64 (s.size : Int), .slice ao acc.length cap, .bool hd, .bool tlq, f 15, f 16, f 17, f 18, f 19, f 20, f 21, f 22, f 23, f 24, f 25, f 26, f 27, f 28, f 29, f 30, f 31, f 32, f 33, f 34, f 35, f 36, f 37, f 38, f 39, f 40, f 41, f 42, f 43, f 44, f 45, f 46, f 47, f 48, f 49, f 50, f 51, f 52, f 53, f 54, f 55, f 56, f 57, f 58, f 59, f 60, f 61, f 62, f 63, f 64, f 65, f 66, f 67, f 68, f 69, f 70, f 71, f 72, f 73, f 74, f 75, f 76, f 77, f 78, f 79, f 80, f 81, f 82, f 83, f 84, f 85, f 86, f 87, f 88, f 89, f 90, f 91, f 92, f 93, f 94, f 95, f 96, f 97, f 98, f 99, f 100, f 101, f 102, f 103, f 104, f 105, f 106, f 107, f 108, f 109, f 110, f 111, f 112, f 113, f 114, f 115, f 116, f 117, f 118, f 119, f 120, f 121, f 122, f 123, f 124, f 125, f 126, f 127, f 128, f 129, f 130, f 131, f 132, f 133, f 134, f 135, f 136, f 137, f 138, f 139, f 140, f 141, f 142, f 143, f 144, f 145, f 146, f 147, f 148, f 149, f 150, f 151, f 152, f 153, f 154, f 155, f 156, f 157, f 158, f 159, f 160, f 161, f 162, f 163, f 164, f 165, f 166, f 167, f 168, f 169, f 170, f 171, f 172, f 173, f 174, f 175, f 176, f 177, f 178, f 179, f 180, f 181, f 182, f 183, f 184, f 185, f 186, f 187, f 188, f 189, f 190, f 191, f 192, f 193, f 194, f 195, f 196, f 197, f 198, f 199, f 200, f 201, f 202, f 203, f 204, f 205, f 206, f 207, f 208, f 209, f 210, f 211, f 212, f 213, f 214, f 215, f 216, f 217, f 218, f 219, f 220, f 221, f 222, f 223, f 224, f 225, f 226, f 227, f 228, f 229, f 230, f 231, f 232, f 233, f 234, f 235, f 236, f 237, f 238, f 239, f 240, f 241, f 242, f 243, f 244, f 245, f 246, f 247, f 248, f 249, f 250, f 251, f 252], defers := [] } wr := by
  obtain ⟨i0, z0, hi, hz0, hz1, hz2, hz3⟩ := zit_parts
  obtain ⟨xs, hx1, hx2⟩ := hkr
  have HX1 := Lib.hid hx1
  have HX2 := Lib.hid hx2
  have HB := Lib.hid hb
  have HC := Lib.hid hcont
  have HK := Lib.hid hK
  have IH := Lib.hid ih
  have hwr : w.heap.size ≤ wr.heap.size := hb.size
  have hlt2 : (c : Int) < (s.size : Int) := by omega
  have hb255 : s[c].toNat < 256 := UInt8.toNat_lt _
  have HZ := Lib.hid (bz_chr s c hlt)
  clear hx1 hx2 hb hcont hK ih
  conv => arg 2; whnf
  have q41 : ((s[c].toNat : Int) == 41) = false := by rw [beq_eq_false_iff_ne]; omega
  have q40 : ((s[c].toNat : Int) == 40) = true := by rw [beq_iff_eq]; omega
  have HP1 : Hid (chr (bz s) c = 40) := Lib.hid (by rw [HZ.out, h40]; rfl)
  have HP2 := Lib.hid hnx
  have HIH := Lib.hid (IH.out wr (c + 1) (by omega) (by omega))
  clear h40 hnx IH
  have hn2 : decide ((c : Int) + 1 < (s.size : Int)) = true := decide_eq_true (by omega)
  have hn3 : (c : Int) + 1 < (s.size : Int) := by omega
  have qn : (((s[c + 1]'hn).toNat : Int) == 41) = false := by
    rw [beq_eq_false_iff_ne]
    intro e
    exact HP2.out (by rw [bz_chr s (c + 1) hn]; exact e)
  go_wp2_with fail
  refine HIH.out.mono ?_
  rintro e w1 ⟨ao1, n1, cap1, j, hd1, tl1, ok1, must1, rfl, hb1, hj, hok⟩
  have HB1 := Lib.hid (HB.out.trans (hb1.mono HB.out.size))
  have hkw := KRow.below ⟨xs, HX1.out, HX2.out⟩ hb1
  have HOK := Lib.hid hok
  have hw1 : w.heap.size ≤ w1.heap.size := HB1.out.size
  clear hb1 hok HX1 HX2
  obtain ⟨xs1, hx1, hx2⟩ := hkw
  have HX1 := Lib.hid hx1
  have HX2 := Lib.hid hx2
  clear hx1 hx2
  cases ok1 with
  | false =>
    go_wp2_with fail
    exact ⟨rfl, none, 0, 0, j, false, false, false, rfl, rfl, rfl, rfl, rfl, sq_no HB1.out (by omega)⟩
  | true =>
    by_cases hjl : j < s.size
    · obtain ⟨l, tl2, cf, hp, hcf⟩ := HOK.out rfl
      obtain ⟨rfl, h41⟩ := hcf hjl
      have HPR : Hid (PRun (bz s) false (c + 1) [] false (.ok l tl2 cf)) := Lib.hid (by
        rcases hp with ⟨h, _⟩ | ⟨_, _, h⟩
        · cases h
        · exact h)
      have H41 := Lib.hid h41
      have hcj : c + 1 ≤ cf := by have := HPR.out.le (by rw [bz_length]; omega) rfl; omega
      clear hp hcf h41 HOK
      have tj : decide ((s.size : Int) ≤ (cf : Int)) = false := decide_eq_false (by omega)
      obtain ⟨X, hX, hbX⟩ := made_sub 4 ao1 n1 cap1
      have HBX := Lib.hid hbX
      have HXX := Lib.hid hX
      clear hX hbX
      go_upto_region 21 with (fail)
      go_upto_region 22 with (refine wpList_buildTo rfl 53 #[(0, .const (.int .i64 4)), (5, .tmp 98)] rfl (some 99) rfl X (by rw [Array.toList_map]; exact HBX.out) ?_; refine wpList_buildSlice rfl 28 53 1 #[(0, .tmp 99)] rfl X i0 z0 Tryf.underlying28 hi hz0 (by rw [hz1]; decide) (by rw [hz1]; decide) (by rw [Array.toList_map]; exact one_fill HXX.out z0 hz1) ?_; refine wpList_push _ rfl (.tmp 97) (.tmp 100) 28 rfl w.heap.size 53 i0 z0 261 312 Tryf.underlying28 hi hz0 hz1 hz2 hz3 (by decide) ao acc.length cap xs1 rfl (HX1.out.alloc _) ⟨_, 0, none⟩ 1 1 X.toList rfl (by rw [Array.length_toList, HXX.out.size]) (by first | exact news_x (by simp) | exact news_xd (by simp) | exact news_x rfl) (one_all HXX.out) (by decide) (by unfold maxLen; omega) (by omega) (by simp; omega) ?_; intro g1 c1 w8 hown hgrow hwhere; have HO := Lib.hid hown; have HGw := Lib.hid hgrow; clear hown hgrow hwhere)
      go_wp2_with fail
      have hbl := below_grown (HB1.out.alloc hw1 _) (Nat.le_refl _) HGw.out (zrow_ne HX1.out)
      have hkr2 := KRow.push (p := .cap l) HO.out HX2.out HXX.out HX1.out.1
      refine HK.out _ _ (cf + 1) (by omega) ⟨rfl, rfl, rfl, rfl, rfl⟩ ⟨acc ++ [.cap l], some ⟨g1, 0, none⟩, c1, hd, tlq, ?_, ?_, ?_, ?_, ?_, ?_, ?_, ?_, ?_⟩
      · exact int_is (by omega)
      · rw [List.length_append]; rfl
      · rfl
      · rfl
      · exact hkr2
      · exact hbl
      · exact fun r h => HC.out r (.capt HP1.out HP2.out HPR.out H41.out h)
      · rw [List.length_append, List.length_singleton]; omega
      · omega
    · have tj : decide ((s.size : Int) ≤ (j : Int)) = true := decide_eq_true (by omega)
      go_wp2_with fail
      exact ⟨rfl, none, 0, 0, j, false, false, false, rfl, rfl, rfl, rfl, rfl, sq_no HB1.out (by omega)⟩


set_option maxRecDepth 1000000 in
set_option maxHeartbeats 4000000 in
theorem sq_capB {w wr : World} {s : ByteArray} {top must : Bool} {i c : Nat} {acc : List Pt} {ao : Option Addr} {cap : Nat} {hd tlq : Bool} {K : Act → World → Prop} (hs : s.size ≤ 4194304) (ih : SIh s c) (hkr : KRow wr w.heap.size ao cap acc) (hb : Below w.heap.size w wr)
    (hcont : ∀ r, PRun (bz s) top c acc tlq r → PTop (bz s) top i must r) (hle : acc.length ≤ c) (hlt : c < s.size) (hK : ∀ a' w' c', c < c' → SFr s top a' → SRel w s top must i w' c' a' → K a' w')
    (h40 : s[c].toNat = 40) (hnx : chr (bz s) (c + 1) ≠ 41) (hn : ¬ c + 1 < s.size) (f : Nat → Value) :
    sqBody.wp Tryf.prog (Exit.then K (SQ w s top must i)) { tmps := #[.string s, .int .i64 (c : Int), .bool top, f 3, f 4, f 5, f 6, f 7, f 8, f 9, f 10, .int .i64 (s.size : Int), .slice ao acc.length cap, .bool hd, .bool tlq, f 15, f 16, f 17, f 18, f 19, f 20, f 21, f 22, f 23, f 24, f 25, f 26, f 27, f 28, f 29, f 30, f 31, f 32, f 33, f 34, f 35, f 36, f 37, f 38, f 39, f 40, f 41, f 42, f 43, f 44, f 45, f 46, f 47, f 48, f 49, f 50, f 51, f 52, f 53, f 54, f 55, f 56, f 57, f 58, f 59, f 60, f 61, f 62, f 63, f 64, f 65, f 66, f 67, f 68, f 69, f 70, f 71, f 72, f 73, f 74, f 75, f 76, f 77, f 78, f 79, f 80, f 81, f 82, f 83, f 84, f 85, f 86, f 87, f 88, f 89, f 90, f 91, f 92, f 93, f 94, f 95, f 96, f 97, f 98, f 99, f 100, f 101, f 102, f 103, f 104, f 105, f 106, f 107, f 108, f 109, f 110, f 111, f 112, f 113, f 114, f 115, f 116, f 117, f 118, f 119, f 120, f 121, f 122, f 123, f 124, f 125, f 126, f 127, f 128, f 129, f 130, f 131, f 132, f 133, f 134, f 135, f 136, f 137, f 138, f 139, f 140, f 141, f 142, f 143, f 144, f 145, f 146, f 147, f 148, f 149, f 150, f 151, f 152, f 153, f 154, f 155, f 156, f 157, f 158, f 159, f 160, f 161, f 162, f 163, f 164, f 165, f 166, f 167, f 168, f 169, f 170, f 171, f 172, f 173, f 174, f 175, f 176, f 177, f 178, f 179, f 180, f 181, f 182, f 183, f 184, f 185, f 186, f 187, f 188, f 189, f 190, f 191, f 192, f 193, f 194, f 195, f 196, f 197, f 198, f 199, f 200, f 201, f 202, f 203, f 204, f 205, f 206, f 207, f 208, f 209, f 210, f 211, f 212, f 213, f 214, f 215, f 216, f 217, f 218, f 219, f 220, f 221, f 222, f 223, f 224, f 225, f 226, f 227, f 228, f 229, f 230, f 231, f 232, f 233, f 234, f 235, f 236, f 237, f 238, f 239, f 240, f 241, f 242, f 243, f 244, f 245, f 246, f 247, f 248, f 249, f 250, f 251, f 252], defers := [] } wr := by
  obtain ⟨i0, z0, hi, hz0, hz1, hz2, hz3⟩ := zit_parts
  obtain ⟨xs, hx1, hx2⟩ := hkr
  have HX1 := Lib.hid hx1
  have HX2 := Lib.hid hx2
  have HB := Lib.hid hb
  have HC := Lib.hid hcont
  have HK := Lib.hid hK
  have IH := Lib.hid ih
  have hwr : w.heap.size ≤ wr.heap.size := hb.size
  have hlt2 : (c : Int) < (s.size : Int) := by omega
  have hb255 : s[c].toNat < 256 := UInt8.toNat_lt _
  have HZ := Lib.hid (bz_chr s c hlt)
  clear hx1 hx2 hb hcont hK ih
  conv => arg 2; whnf
  have q41 : ((s[c].toNat : Int) == 41) = false := by rw [beq_eq_false_iff_ne]; omega
  have q40 : ((s[c].toNat : Int) == 40) = true := by rw [beq_iff_eq]; omega
  have HP1 : Hid (chr (bz s) c = 40) := Lib.hid (by rw [HZ.out, h40]; rfl)
  have HP2 := Lib.hid hnx
  have HIH := Lib.hid (IH.out wr (c + 1) (by omega) (by omega))
  clear h40 hnx IH
  have hn2 : decide ((c : Int) + 1 < (s.size : Int)) = false := decide_eq_false (by omega)
  go_wp2_with fail
  refine HIH.out.mono ?_
  rintro e w1 ⟨ao1, n1, cap1, j, hd1, tl1, ok1, must1, rfl, hb1, hj, hok⟩
  have HB1 := Lib.hid (HB.out.trans (hb1.mono HB.out.size))
  have hkw := KRow.below ⟨xs, HX1.out, HX2.out⟩ hb1
  have HOK := Lib.hid hok
  have hw1 : w.heap.size ≤ w1.heap.size := HB1.out.size
  clear hb1 hok HX1 HX2
  obtain ⟨xs1, hx1, hx2⟩ := hkw
  have HX1 := Lib.hid hx1
  have HX2 := Lib.hid hx2
  clear hx1 hx2
  cases ok1 with
  | false =>
    go_wp2_with fail
    exact ⟨rfl, none, 0, 0, j, false, false, false, rfl, rfl, rfl, rfl, rfl, sq_no HB1.out (by omega)⟩
  | true =>
    by_cases hjl : j < s.size
    · obtain ⟨l, tl2, cf, hp, hcf⟩ := HOK.out rfl
      obtain ⟨rfl, h41⟩ := hcf hjl
      have HPR : Hid (PRun (bz s) false (c + 1) [] false (.ok l tl2 cf)) := Lib.hid (by
        rcases hp with ⟨h, _⟩ | ⟨_, _, h⟩
        · cases h
        · exact h)
      have H41 := Lib.hid h41
      have hcj : c + 1 ≤ cf := by have := HPR.out.le (by rw [bz_length]; omega) rfl; omega
      clear hp hcf h41 HOK
      exfalso
      omega
    · have tj : decide ((s.size : Int) ≤ (j : Int)) = true := decide_eq_true (by omega)
      go_wp2_with fail
      exact ⟨rfl, none, 0, 0, j, false, false, false, rfl, rfl, rfl, rfl, rfl, sq_no HB1.out (by omega)⟩

end Go.Proofs.YtejankffdmahnaaFmt
