/-
  Rounds of parsePattern that end in an error. Conditions: as each statement says.
-/
import Derived.Test.YtcfhhcjcnafcjaaFmtPatAll
namespace Go.Proofs.YtcfhhcjcnafcjaaFmt
open Go.RowKit
set_option linter.unusedVariables false
set_option linter.unusedSimpArgs false

set_option maxHeartbeats 4000000 in
set_option maxRecDepth 1000000 in
theorem pp_closeTop {w wr : World} {B b : Nat} {sao : Option Addr} {scap : Nat} {zs : List Int} {must : Bool} {r : PR} {cs c s' : Nat} {q : Bool} {ao : Option Addr} {cap : Nat} {acc : List Pt} {vs : List Value} {K : Act → World → Prop}
    (hB : w.heap.size = B) (hb : b < B) (hsr : ∀ sb so, sao = some ⟨sb, so, none⟩ → sb < B) (h0 : 0 < zs.length) (hl : zs.length ≤ 4194304) (ih : PIh b sao scap zs cs)
    (ho : PatO wr B B must q ao cap acc vs) (hs : Scan wr b sao scap zs c s') (hg : w.grownBy wr (some b)) (hle : acc.length ≤ c) (hcm : cs ≤ c) (hcb : c ≤ zs.length + 1)
    (hz : chr zs c = 41) (hr : PR.err (posOf zs.length c) 0 = r) (f : Nat → Value) :
    ppBody.wp Tryf.prog (Exit.then K (PQ w B b sao scap zs true must r)) { tmps := #[.pointer (some ⟨b, 0, none⟩), .bool true, f 2, f 3, f 4, .pointer (some ⟨B, 0, none⟩), f 6, f 7, f 8, f 9, f 10, f 11, f 12, f 13, f 14, f 15, f 16, f 17, f 18, f 19, f 20, f 21, f 22, f 23, f 24, f 25, f 26, f 27, f 28, f 29, f 30, f 31, f 32, f 33, f 34, f 35, f 36, f 37, f 38, f 39, f 40, f 41, f 42, f 43, f 44, f 45, f 46, f 47, f 48, f 49, f 50, f 51, f 52, f 53, f 54, f 55, f 56, f 57, f 58, f 59, f 60, f 61, f 62, f 63, f 64, f 65, f 66, f 67, f 68, f 69, f 70, f 71, f 72, f 73, f 74, f 75, f 76, f 77, f 78, f 79, f 80, f 81, f 82, f 83, f 84, f 85, f 86, f 87, f 88, f 89, f 90, f 91, f 92, f 93, f 94, f 95, f 96, f 97, f 98, f 99, f 100, f 101, f 102, f 103, f 104, f 105, f 106, f 107, f 108, f 109, f 110, f 111, f 112, f 113, f 114, f 115, f 116, f 117, f 118, f 119, f 120, f 121, f 122, f 123, f 124, f 125, f 126, f 127, f 128, f 129, f 130, f 131, f 132, f 133, f 134, f 135, f 136, f 137, f 138, f 139, f 140, f 141, f 142, f 143, f 144, f 145, f 146, f 147, f 148, f 149, f 150, f 151, f 152, f 153, f 154, f 155, f 156, f 157, f 158, f 159, f 160, f 161, f 162, f 163, f 164, f 165, f 166, f 167, f 168, f 169, f 170, f 171, f 172, f 173, f 174, f 175, f 176, f 177, f 178, f 179, f 180, f 181, f 182, f 183, f 184, f 185, f 186, f 187, f 188, f 189, f 190, f 191, f 192, f 193, f 194, f 195, f 196, f 197, f 198, f 199, f 200, f 201, f 202, f 203, f 204, f 205, f 206, f 207, f 208, f 209, f 210, f 211, f 212, f 213, f 214, f 215, f 216, f 217, f 218, f 219, f 220, f 221, f 222, f 223, f 224, f 225, f 226, f 227, f 228, f 229, f 230, f 231, f 232, f 233, f 234, f 235, f 236, f 237, f 238, f 239, f 240, f 241, f 242, f 243, f 244, f 245, f 246, f 247, f 248, f 249, f 250, f 251, f 252, f 253, f 254, f 255, f 256, f 257, f 258, f 259, f 260, f 261, f 262, f 263, f 264, f 265, f 266, f 267, f 268, f 269, f 270, f 271, f 272, f 273, f 274, f 275, f 276, f 277, f 278, f 279, f 280, f 281, f 282, f 283, f 284, f 285, f 286, f 287, f 288, f 289, f 290, f 291, f 292, f 293, f 294, f 295, f 296, f 297, f 298, f 299, f 300, f 301, f 302, f 303, f 304, f 305, f 306, f 307], defers := [] } wr := by
  subst hr
  obtain ⟨i0, hi, hz0, hz1, hz2⟩ := info_parts pattern_info
  have hbw := Lib.hid hb
  have hsrc := Lib.hid hsr
  have HB := Lib.hid hB
  have IH := Lib.hid ih
  have HOr := Lib.hid ho
  have HSr := Lib.hid hs
  have HGr := Lib.hid hg
  clear hB hb hsr ih ho hs hg
  conv => arg 2; whnf
  have HZ := Lib.hid hz
  clear hz
  go_wp2_with fail
  refine (peek_at HSr.out h0 HZ.out).mono ?_
  rintro e w1 ⟨rfl, hs1, hg1⟩
  have HO1 := Lib.hid (HOr.out.call hg1 hbw.out)
  have HS1 := Lib.hid hs1
  have HG1 := Lib.hid (one_trans HGr.out hg1)
  clear hs1 hg1
  obtain ⟨P0, hP0⟩ : ∃ P0, posOf zs.length c = P0 := ⟨_, rfl⟩
  have HP0 := Lib.hid hP0
  have HCU := Lib.hid (cur_any HS1.out)
  rw [hP0] at HCU
  clear hP0
  have hsz1 := blk_lt HO1.out.blk
  go_wp2_with fail
  refine HCU.out.mono ?_
  rintro e wx ⟨rfl, rfl⟩
  go_wp2_with fail
  refine (newErr_any _ _ _).mono ?_
  rintro e wx ⟨rfl, rfl⟩
  go_wp2_with fail
  exact ⟨rfl, one_alloc HG1.out _, _, 0, (by rw [HP0.out]), w1.heap.size, rfl, (by have := HO1.out.hm; omega), blk_new _ _⟩
set_option maxHeartbeats 4000000 in
set_option maxRecDepth 1000000 in
theorem pp_idx {w wr : World} {B b : Nat} {sao : Option Addr} {scap : Nat} {zs : List Int} {top must : Bool} {r : PR} {cs c s' : Nat} {q : Bool} {ao : Option Addr} {cap : Nat} {acc : List Pt} {vs : List Value} {K : Act → World → Prop}
    (hB : w.heap.size = B) (hb : b < B) (hsr : ∀ sb so, sao = some ⟨sb, so, none⟩ → sb < B) (h0 : 0 < zs.length) (hl : zs.length ≤ 4194304) (ih : PIh b sao scap zs cs)
    (ho : PatO wr B B must q ao cap acc vs) (hs : Scan wr b sao scap zs c s') (hg : w.grownBy wr (some b)) (hle : acc.length ≤ c) (hcm : cs ≤ c) (hcb : c ≤ zs.length + 1)
    (hz : chr zs c = 37) (h48 : chr zs (c + 1) = 48) (hr : PR.err (c : Int) 1 = r) (f : Nat → Value) :
    ppBody.wp Tryf.prog (Exit.then K (PQ w B b sao scap zs top must r)) { tmps := #[.pointer (some ⟨b, 0, none⟩), .bool top, f 2, f 3, f 4, .pointer (some ⟨B, 0, none⟩), f 6, f 7, f 8, f 9, f 10, f 11, f 12, f 13, f 14, f 15, f 16, f 17, f 18, f 19, f 20, f 21, f 22, f 23, f 24, f 25, f 26, f 27, f 28, f 29, f 30, f 31, f 32, f 33, f 34, f 35, f 36, f 37, f 38, f 39, f 40, f 41, f 42, f 43, f 44, f 45, f 46, f 47, f 48, f 49, f 50, f 51, f 52, f 53, f 54, f 55, f 56, f 57, f 58, f 59, f 60, f 61, f 62, f 63, f 64, f 65, f 66, f 67, f 68, f 69, f 70, f 71, f 72, f 73, f 74, f 75, f 76, f 77, f 78, f 79, f 80, f 81, f 82, f 83, f 84, f 85, f 86, f 87, f 88, f 89, f 90, f 91, f 92, f 93, f 94, f 95, f 96, f 97, f 98, f 99, f 100, f 101, f 102, f 103, f 104, f 105, f 106, f 107, f 108, f 109, f 110, f 111, f 112, f 113, f 114, f 115, f 116, f 117, f 118, f 119, f 120, f 121, f 122, f 123, f 124, f 125, f 126, f 127, f 128, f 129, f 130, f 131, f 132, f 133, f 134, f 135, f 136, f 137, f 138, f 139, f 140, f 141, f 142, f 143, f 144, f 145, f 146, f 147, f 148, f 149, f 150, f 151, f 152, f 153, f 154, f 155, f 156, f 157, f 158, f 159, f 160, f 161, f 162, f 163, f 164, f 165, f 166, f 167, f 168, f 169, f 170, f 171, f 172, f 173, f 174, f 175, f 176, f 177, f 178, f 179, f 180, f 181, f 182, f 183, f 184, f 185, f 186, f 187, f 188, f 189, f 190, f 191, f 192, f 193, f 194, f 195, f 196, f 197, f 198, f 199, f 200, f 201, f 202, f 203, f 204, f 205, f 206, f 207, f 208, f 209, f 210, f 211, f 212, f 213, f 214, f 215, f 216, f 217, f 218, f 219, f 220, f 221, f 222, f 223, f 224, f 225, f 226, f 227, f 228, f 229, f 230, f 231, f 232, f 233, f 234, f 235, f 236, f 237, f 238, f 239, f 240, f 241, f 242, f 243, f 244, f 245, f 246, f 247, f 248, f 249, f 250, f 251, f 252, f 253, f 254, f 255, f 256, f 257, f 258, f 259, f 260, f 261, f 262, f 263, f 264, f 265, f 266, f 267, f 268, f 269, f 270, f 271, f 272, f 273, f 274, f 275, f 276, f 277, f 278, f 279, f 280, f 281, f 282, f 283, f 284, f 285, f 286, f 287, f 288, f 289, f 290, f 291, f 292, f 293, f 294, f 295, f 296, f 297, f 298, f 299, f 300, f 301, f 302, f 303, f 304, f 305, f 306, f 307], defers := [] } wr := by
  subst hr
  obtain ⟨i0, hi, hz0, hz1, hz2⟩ := info_parts pattern_info
  have hbw := Lib.hid hb
  have hsrc := Lib.hid hsr
  have HB := Lib.hid hB
  have IH := Lib.hid ih
  have HOr := Lib.hid ho
  have HSr := Lib.hid hs
  have HGr := Lib.hid hg
  clear hB hb hsr ih ho hs hg
  conv => arg 2; whnf
  have hlt : c < zs.length := chr_lt (by rw [hz]; omega)
  have hlt2 : c + 1 < zs.length := chr_lt (by rw [h48]; omega)
  have HZ := Lib.hid hz
  have HY := Lib.hid h48
  have HPC : Hid (posOf zs.length (c + 1) = (c : Int)) := Lib.hid (by unfold posOf; rw [if_neg (by omega), if_pos (by omega)]; omega)
  clear hz h48
  go_wp2_with fail
  refine (peek_at HSr.out h0 HZ.out).mono ?_
  rintro e w1 ⟨rfl, hs1, hg1⟩
  have HO1 := Lib.hid (HOr.out.call hg1 hbw.out)
  have HS1 := Lib.hid hs1
  have HG1 := Lib.hid (one_trans HGr.out hg1)
  clear hs1 hg1
  go_wp2_with fail
  refine (save_any HS1.out).mono ?_
  rintro e w2 ⟨rfl, hs2, hg2⟩
  have HO2 := Lib.hid (HO1.out.call hg2 hbw.out)
  have HS2 := Lib.hid hs2
  have HG2 := Lib.hid (one_trans HG1.out hg2)
  clear hs2 hg2
  go_wp2_with fail
  refine (next_at HS2.out (by omega) HZ.out).mono ?_
  rintro e w3 ⟨rfl, hs3, hg3⟩
  have HO3 := Lib.hid (HO2.out.call hg3 hbw.out)
  have HS3 := Lib.hid hs3
  have HG3 := Lib.hid (one_trans HG2.out hg3)
  clear hs3 hg3
  go_wp2_with fail
  refine (peek_at HS3.out h0 HY.out).mono ?_
  rintro e w4 ⟨rfl, hs4, hg4⟩
  have HO4 := Lib.hid (HO3.out.call hg4 hbw.out)
  have HS4 := Lib.hid hs4
  have HG4 := Lib.hid (one_trans HG3.out hg4)
  clear hs4 hg4
  obtain ⟨P0, hP0⟩ : ∃ P0, posOf zs.length (c + 1) = P0 := ⟨_, rfl⟩
  have HP0 := Lib.hid hP0
  have HCU := Lib.hid (cur_any HS4.out)
  rw [hP0] at HCU
  clear hP0
  have hsz4 := blk_lt HO4.out.blk
  go_wp2_with fail
  refine HCU.out.mono ?_
  rintro e wx ⟨rfl, rfl⟩
  go_wp2_with fail
  refine (newErr_any _ _ _).mono ?_
  rintro e wx ⟨rfl, rfl⟩
  go_wp2_with fail
  exact ⟨rfl, one_alloc HG4.out _, _, 1, (by rw [← HP0.out, HPC.out]), w4.heap.size, rfl, (by have := HO4.out.hm; omega), blk_new _ _⟩
set_option maxHeartbeats 4000000 in
set_option maxRecDepth 1000000 in
theorem pp_capErr {w wr : World} {B b : Nat} {sao : Option Addr} {scap : Nat} {zs : List Int} {top must : Bool} {r : PR} {cs c s' : Nat} {q : Bool} {ao : Option Addr} {cap : Nat} {acc : List Pt} {vs : List Value} {K : Act → World → Prop}
    (hB : w.heap.size = B) (hb : b < B) (hsr : ∀ sb so, sao = some ⟨sb, so, none⟩ → sb < B) (h0 : 0 < zs.length) (hl : zs.length ≤ 4194304) (ih : PIh b sao scap zs cs)
    (ho : PatO wr B B must q ao cap acc vs) (hs : Scan wr b sao scap zs c s') (hg : w.grownBy wr (some b)) (hle : acc.length ≤ c) (hcm : cs ≤ c) (hcb : c ≤ zs.length + 1)
    {p : Int} {m : Nat} (hz : chr zs c = 40) (h41 : chr zs (c + 1) ≠ 41) (hin : PRun zs false (c + 1) [] false (.err p m)) (hr : PR.err p m = r) (f : Nat → Value) :
    ppBody.wp Tryf.prog (Exit.then K (PQ w B b sao scap zs top must r)) { tmps := #[.pointer (some ⟨b, 0, none⟩), .bool top, f 2, f 3, f 4, .pointer (some ⟨B, 0, none⟩), f 6, f 7, f 8, f 9, f 10, f 11, f 12, f 13, f 14, f 15, f 16, f 17, f 18, f 19, f 20, f 21, f 22, f 23, f 24, f 25, f 26, f 27, f 28, f 29, f 30, f 31, f 32, f 33, f 34, f 35, f 36, f 37, f 38, f 39, f 40, f 41, f 42, f 43, f 44, f 45, f 46, f 47, f 48, f 49, f 50, f 51, f 52, f 53, f 54, f 55, f 56, f 57, f 58, f 59, f 60, f 61, f 62, f 63, f 64, f 65, f 66, f 67, f 68, f 69, f 70, f 71, f 72, f 73, f 74, f 75, f 76, f 77, f 78, f 79, f 80, f 81, f 82, f 83, f 84, f 85, f 86, f 87, f 88, f 89, f 90, f 91, f 92, f 93, f 94, f 95, f 96, f 97, f 98, f 99, f 100, f 101, f 102, f 103, f 104, f 105, f 106, f 107, f 108, f 109, f 110, f 111, f 112, f 113, f 114, f 115, f 116, f 117, f 118, f 119, f 120, f 121, f 122, f 123, f 124, f 125, f 126, f 127, f 128, f 129, f 130, f 131, f 132, f 133, f 134, f 135, f 136, f 137, f 138, f 139, f 140, f 141, f 142, f 143, f 144, f 145, f 146, f 147, f 148, f 149, f 150, f 151, f 152, f 153, f 154, f 155, f 156, f 157, f 158, f 159, f 160, f 161, f 162, f 163, f 164, f 165, f 166, f 167, f 168, f 169, f 170, f 171, f 172, f 173, f 174, f 175, f 176, f 177, f 178, f 179, f 180, f 181, f 182, f 183, f 184, f 185, f 186, f 187, f 188, f 189, f 190, f 191, f 192, f 193, f 194, f 195, f 196, f 197, f 198, f 199, f 200, f 201, f 202, f 203, f 204, f 205, f 206, f 207, f 208, f 209, f 210, f 211, f 212, f 213, f 214, f 215, f 216, f 217, f 218, f 219, f 220, f 221, f 222, f 223, f 224, f 225, f 226, f 227, f 228, f 229, f 230, f 231, f 232, f 233, f 234, f 235, f 236, f 237, f 238, f 239, f 240, f 241, f 242, f 243, f 244, f 245, f 246, f 247, f 248, f 249, f 250, f 251, f 252, f 253, f 254, f 255, f 256, f 257, f 258, f 259, f 260, f 261, f 262, f 263, f 264, f 265, f 266, f 267, f 268, f 269, f 270, f 271, f 272, f 273, f 274, f 275, f 276, f 277, f 278, f 279, f 280, f 281, f 282, f 283, f 284, f 285, f 286, f 287, f 288, f 289, f 290, f 291, f 292, f 293, f 294, f 295, f 296, f 297, f 298, f 299, f 300, f 301, f 302, f 303, f 304, f 305, f 306, f 307], defers := [] } wr := by
  subst hr
  obtain ⟨i0, hi, hz0, hz1, hz2⟩ := info_parts pattern_info
  have hbw := Lib.hid hb
  have hsrc := Lib.hid hsr
  have HB := Lib.hid hB
  have IH := Lib.hid ih
  have HOr := Lib.hid ho
  have HSr := Lib.hid hs
  have HGr := Lib.hid hg
  clear hB hb hsr ih ho hs hg
  conv => arg 2; whnf
  have hlt : c < zs.length := chr_lt (by rw [hz]; omega)
  obtain ⟨y, hy⟩ : ∃ y, chr zs (c + 1) = y := ⟨_, rfl⟩
  rw [hy] at h41
  have y41 : (y == 41) = false := by simpa using h41
  have HZ := Lib.hid hz
  have HY := Lib.hid hy
  have HIN := Lib.hid hin
  clear hz hy h41 hin
  go_wp2_with fail
  refine (peek_at HSr.out h0 HZ.out).mono ?_
  rintro e w1 ⟨rfl, hs1, hg1⟩
  have HO1 := Lib.hid (HOr.out.call hg1 hbw.out)
  have HS1 := Lib.hid hs1
  have HG1 := Lib.hid (one_trans HGr.out hg1)
  clear hs1 hg1
  go_wp2_with fail
  refine (next_at HS1.out (by omega) HZ.out).mono ?_
  rintro e w2 ⟨rfl, hs2, hg2⟩
  have HO2 := Lib.hid (HO1.out.call hg2 hbw.out)
  have HS2 := Lib.hid hs2
  have HG2 := Lib.hid (one_trans HG1.out hg2)
  clear hs2 hg2
  go_wp2_with fail
  refine (peek_at HS2.out h0 HY.out).mono ?_
  rintro e w3 ⟨rfl, hs3, hg3⟩
  have HO3 := Lib.hid (HO2.out.call hg3 hbw.out)
  have HS3 := Lib.hid hs3
  have HG3 := Lib.hid (one_trans HG2.out hg3)
  clear hs3 hg3
  go_wp2_with fail
  refine (IH.out _ _ _ _ HS3.out (by omega) (by omega) HIN.out).mono ?_
  rintro e w4 ⟨ch, rfl, hgr, g, rfl, hg, hb⟩
  exact ⟨rfl, one_trans HG3.out hgr, _, _, rfl, g, rfl, Nat.le_trans (by have := HO3.out.hm; have := blk_lt HO3.out.blk; omega) hg, hb⟩
set_option maxHeartbeats 4000000 in
set_option maxRecDepth 1000000 in
theorem pp_capOpen {w wr : World} {B b : Nat} {sao : Option Addr} {scap : Nat} {zs : List Int} {top must : Bool} {r : PR} {cs c s' : Nat} {q : Bool} {ao : Option Addr} {cap : Nat} {acc : List Pt} {vs : List Value} {K : Act → World → Prop}
    (hB : w.heap.size = B) (hb : b < B) (hsr : ∀ sb so, sao = some ⟨sb, so, none⟩ → sb < B) (h0 : 0 < zs.length) (hl : zs.length ≤ 4194304) (ih : PIh b sao scap zs cs)
    (ho : PatO wr B B must q ao cap acc vs) (hs : Scan wr b sao scap zs c s') (hg : w.grownBy wr (some b)) (hle : acc.length ≤ c) (hcm : cs ≤ c) (hcb : c ≤ zs.length + 1)
    {l1 : List Pt} {ce : Nat} {q1 : Bool} (hz : chr zs c = 40) (h41 : chr zs (c + 1) ≠ 41) (hin : PRun zs false (c + 1) [] false (.ok l1 q1 ce)) (hcl : chr zs ce ≠ 41) (hr : PR.err (posOf zs.length ce) 2 = r) (f : Nat → Value) :
    ppBody.wp Tryf.prog (Exit.then K (PQ w B b sao scap zs top must r)) { tmps := #[.pointer (some ⟨b, 0, none⟩), .bool top, f 2, f 3, f 4, .pointer (some ⟨B, 0, none⟩), f 6, f 7, f 8, f 9, f 10, f 11, f 12, f 13, f 14, f 15, f 16, f 17, f 18, f 19, f 20, f 21, f 22, f 23, f 24, f 25, f 26, f 27, f 28, f 29, f 30, f 31, f 32, f 33, f 34, f 35, f 36, f 37, f 38, f 39, f 40, f 41, f 42, f 43, f 44, f 45, f 46, f 47, f 48, f 49, f 50, f 51, f 52, f 53, f 54, f 55, f 56, f 57, f 58, f 59, f 60, f 61, f 62, f 63, f 64, f 65, f 66, f 67, f 68, f 69, f 70, f 71, f 72, f 73, f 74, f 75, f 76, f 77, f 78, f 79, f 80, f 81, f 82, f 83, f 84, f 85, f 86, f 87, f 88, f 89, f 90, f 91, f 92, f 93, f 94, f 95, f 96, f 97, f 98, f 99, f 100, f 101, f 102, f 103, f 104, f 105, f 106, f 107, f 108, f 109, f 110, f 111, f 112, f 113, f 114, f 115, f 116, f 117, f 118, f 119, f 120, f 121, f 122, f 123, f 124, f 125, f 126, f 127, f 128, f 129, f 130, f 131, f 132, f 133, f 134, f 135, f 136, f 137, f 138, f 139, f 140, f 141, f 142, f 143, f 144, f 145, f 146, f 147, f 148, f 149, f 150, f 151, f 152, f 153, f 154, f 155, f 156, f 157, f 158, f 159, f 160, f 161, f 162, f 163, f 164, f 165, f 166, f 167, f 168, f 169, f 170, f 171, f 172, f 173, f 174, f 175, f 176, f 177, f 178, f 179, f 180, f 181, f 182, f 183, f 184, f 185, f 186, f 187, f 188, f 189, f 190, f 191, f 192, f 193, f 194, f 195, f 196, f 197, f 198, f 199, f 200, f 201, f 202, f 203, f 204, f 205, f 206, f 207, f 208, f 209, f 210, f 211, f 212, f 213, f 214, f 215, f 216, f 217, f 218, f 219, f 220, f 221, f 222, f 223, f 224, f 225, f 226, f 227, f 228, f 229, f 230, f 231, f 232, f 233, f 234, f 235, f 236, f 237, f 238, f 239, f 240, f 241, f 242, f 243, f 244, f 245, f 246, f 247, f 248, f 249, f 250, f 251, f 252, f 253, f 254, f 255, f 256, f 257, f 258, f 259, f 260, f 261, f 262, f 263, f 264, f 265, f 266, f 267, f 268, f 269, f 270, f 271, f 272, f 273, f 274, f 275, f 276, f 277, f 278, f 279, f 280, f 281, f 282, f 283, f 284, f 285, f 286, f 287, f 288, f 289, f 290, f 291, f 292, f 293, f 294, f 295, f 296, f 297, f 298, f 299, f 300, f 301, f 302, f 303, f 304, f 305, f 306, f 307], defers := [] } wr := by
  subst hr
  obtain ⟨i0, hi, hz0, hz1, hz2⟩ := info_parts pattern_info
  have hbw := Lib.hid hb
  have hsrc := Lib.hid hsr
  have HB := Lib.hid hB
  have IH := Lib.hid ih
  have HOr := Lib.hid ho
  have HSr := Lib.hid hs
  have HGr := Lib.hid hg
  clear hB hb hsr ih ho hs hg
  conv => arg 2; whnf
  obtain ⟨y2, hy2⟩ : ∃ y, chr zs ce = y := ⟨_, rfl⟩
  rw [hy2] at hcl
  have z41 : (y2 == 41) = false := by simpa using hcl
  have HY2 := Lib.hid hy2
  clear hy2 hcl
  have hlt : c < zs.length := chr_lt (by rw [hz]; omega)
  obtain ⟨y, hy⟩ : ∃ y, chr zs (c + 1) = y := ⟨_, rfl⟩
  rw [hy] at h41
  have y41 : (y == 41) = false := by simpa using h41
  have HZ := Lib.hid hz
  have HY := Lib.hid hy
  have HIN := Lib.hid hin
  clear hz hy h41 hin
  go_wp2_with fail
  refine (peek_at HSr.out h0 HZ.out).mono ?_
  rintro e w1 ⟨rfl, hs1, hg1⟩
  have HO1 := Lib.hid (HOr.out.call hg1 hbw.out)
  have HS1 := Lib.hid hs1
  have HG1 := Lib.hid (one_trans HGr.out hg1)
  clear hs1 hg1
  go_wp2_with fail
  refine (next_at HS1.out (by omega) HZ.out).mono ?_
  rintro e w2 ⟨rfl, hs2, hg2⟩
  have HO2 := Lib.hid (HO1.out.call hg2 hbw.out)
  have HS2 := Lib.hid hs2
  have HG2 := Lib.hid (one_trans HG1.out hg2)
  clear hs2 hg2
  go_wp2_with fail
  refine (peek_at HS2.out h0 HY.out).mono ?_
  rintro e w3 ⟨rfl, hs3, hg3⟩
  have HO3 := Lib.hid (HO2.out.call hg3 hbw.out)
  have HS3 := Lib.hid hs3
  have HG3 := Lib.hid (one_trans HG2.out hg3)
  clear hs3 hg3
  go_wp2_with fail
  refine (IH.out _ _ _ _ HS3.out (by omega) (by omega) HIN.out).mono ?_
  rintro e w4 ⟨q4, ao4, cap4, vs4, s4, rfl, hq4, hp4, hs4, hg4⟩
  have HO5 := Lib.hid ((HO3.out.call hg4 hbw.out).alloc (.cells #[.iface 66 (.pointer (some ⟨q4, 0, none⟩))] 107))
  have HS5 := Lib.hid (hs4.grownAlloc (.cells #[.iface 66 (.pointer (some ⟨q4, 0, none⟩))] 107))
  have HG5 := Lib.hid (one_alloc (one_trans HG3.out hg4) (.cells #[.iface 66 (.pointer (some ⟨q4, 0, none⟩))] 107))
  clear hq4 hp4 hs4 hg4
  go_wp2_with fail
  generalize w4.alloc (.cells #[.iface 66 (.pointer (some ⟨q4, 0, none⟩))] 107) = w5 at *
  go_wp2_with fail
  refine (peek_at HS5.out h0 HY2.out).mono ?_
  rintro e w6 ⟨rfl, hs6, hg6⟩
  have HO6 := Lib.hid (HO5.out.call hg6 hbw.out)
  have HS6 := Lib.hid hs6
  have HG6 := Lib.hid (one_trans HG5.out hg6)
  clear hs6 hg6
  obtain ⟨P0, hP0⟩ : ∃ P0, posOf zs.length ce = P0 := ⟨_, rfl⟩
  have HP0 := Lib.hid hP0
  have HCU := Lib.hid (cur_any HS6.out)
  rw [hP0] at HCU
  clear hP0
  have hsz6 := blk_lt HO6.out.blk
  go_wp2_with fail
  refine HCU.out.mono ?_
  rintro e wx ⟨rfl, rfl⟩
  go_wp2_with fail
  refine (newErr_any _ _ _).mono ?_
  rintro e wx ⟨rfl, rfl⟩
  go_wp2_with fail
  exact ⟨rfl, one_alloc HG6.out _, _, 2, (by rw [HP0.out]), w6.heap.size, rfl, (by have := HO6.out.hm; omega), blk_new _ _⟩
set_option maxHeartbeats 4000000 in
set_option maxRecDepth 1000000 in
theorem pp_clsErr {w wr : World} {B b : Nat} {sao : Option Addr} {scap : Nat} {zs : List Int} {top must : Bool} {r : PR} {cs c s' : Nat} {q : Bool} {ao : Option Addr} {cap : Nat} {acc : List Pt} {vs : List Value} {K : Act → World → Prop}
    (hB : w.heap.size = B) (hb : b < B) (hsr : ∀ sb so, sao = some ⟨sb, so, none⟩ → sb < B) (h0 : 0 < zs.length) (hl : zs.length ≤ 4194304) (ih : PIh b sao scap zs cs)
    (ho : PatO wr B B must q ao cap acc vs) (hs : Scan wr b sao scap zs c s') (hg : w.grownBy wr (some b)) (hle : acc.length ≤ c) (hcm : cs ≤ c) (hcb : c ≤ zs.length + 1)
    (hz : chr zs c = 91) (hc : c + 1 = zs.length) (hr : PR.err (c : Int) 3 = r) (f : Nat → Value) :
    ppBody.wp Tryf.prog (Exit.then K (PQ w B b sao scap zs top must r)) { tmps := #[.pointer (some ⟨b, 0, none⟩), .bool top, f 2, f 3, f 4, .pointer (some ⟨B, 0, none⟩), f 6, f 7, f 8, f 9, f 10, f 11, f 12, f 13, f 14, f 15, f 16, f 17, f 18, f 19, f 20, f 21, f 22, f 23, f 24, f 25, f 26, f 27, f 28, f 29, f 30, f 31, f 32, f 33, f 34, f 35, f 36, f 37, f 38, f 39, f 40, f 41, f 42, f 43, f 44, f 45, f 46, f 47, f 48, f 49, f 50, f 51, f 52, f 53, f 54, f 55, f 56, f 57, f 58, f 59, f 60, f 61, f 62, f 63, f 64, f 65, f 66, f 67, f 68, f 69, f 70, f 71, f 72, f 73, f 74, f 75, f 76, f 77, f 78, f 79, f 80, f 81, f 82, f 83, f 84, f 85, f 86, f 87, f 88, f 89, f 90, f 91, f 92, f 93, f 94, f 95, f 96, f 97, f 98, f 99, f 100, f 101, f 102, f 103, f 104, f 105, f 106, f 107, f 108, f 109, f 110, f 111, f 112, f 113, f 114, f 115, f 116, f 117, f 118, f 119, f 120, f 121, f 122, f 123, f 124, f 125, f 126, f 127, f 128, f 129, f 130, f 131, f 132, f 133, f 134, f 135, f 136, f 137, f 138, f 139, f 140, f 141, f 142, f 143, f 144, f 145, f 146, f 147, f 148, f 149, f 150, f 151, f 152, f 153, f 154, f 155, f 156, f 157, f 158, f 159, f 160, f 161, f 162, f 163, f 164, f 165, f 166, f 167, f 168, f 169, f 170, f 171, f 172, f 173, f 174, f 175, f 176, f 177, f 178, f 179, f 180, f 181, f 182, f 183, f 184, f 185, f 186, f 187, f 188, f 189, f 190, f 191, f 192, f 193, f 194, f 195, f 196, f 197, f 198, f 199, f 200, f 201, f 202, f 203, f 204, f 205, f 206, f 207, f 208, f 209, f 210, f 211, f 212, f 213, f 214, f 215, f 216, f 217, f 218, f 219, f 220, f 221, f 222, f 223, f 224, f 225, f 226, f 227, f 228, f 229, f 230, f 231, f 232, f 233, f 234, f 235, f 236, f 237, f 238, f 239, f 240, f 241, f 242, f 243, f 244, f 245, f 246, f 247, f 248, f 249, f 250, f 251, f 252, f 253, f 254, f 255, f 256, f 257, f 258, f 259, f 260, f 261, f 262, f 263, f 264, f 265, f 266, f 267, f 268, f 269, f 270, f 271, f 272, f 273, f 274, f 275, f 276, f 277, f 278, f 279, f 280, f 281, f 282, f 283, f 284, f 285, f 286, f 287, f 288, f 289, f 290, f 291, f 292, f 293, f 294, f 295, f 296, f 297, f 298, f 299, f 300, f 301, f 302, f 303, f 304, f 305, f 306, f 307], defers := [] } wr := by
  subst hr
  obtain ⟨i0, hi, hz0, hz1, hz2⟩ := info_parts pattern_info
  have hbw := Lib.hid hb
  have hsrc := Lib.hid hsr
  have HB := Lib.hid hB
  have IH := Lib.hid ih
  have HOr := Lib.hid ho
  have HSr := Lib.hid hs
  have HGr := Lib.hid hg
  clear hB hb hsr ih ho hs hg
  conv => arg 2; whnf
  have HZ := Lib.hid hz
  clear hz
  go_wp2_with fail
  refine (peek_at HSr.out h0 HZ.out).mono ?_
  rintro e w1 ⟨rfl, hs1, hg1⟩
  have HO1 := Lib.hid (HOr.out.call hg1 hbw.out)
  have HS1 := Lib.hid hs1
  have HG1 := Lib.hid (one_trans HGr.out hg1)
  clear hs1 hg1
  have k1 : w1.cell? ⟨B, 2, none⟩ = some (.slice ao acc.length cap) := blk_cell HO1.out.blk 2 _ rfl
  have f1 : w1.frozen? ⟨B, 2, none⟩ = false := blk_free HO1.out.blk 2
  have HSd := Lib.hid HS1.out.drew'
  have hb1 := blk_lt HO1.out.blk
  have HC := Lib.hid hc
  clear hc
  go_wp2_with fail
  go_region_law (go_simp; go_at_call 30; refine (parseCls_err HSd.out HZ.out HC.out).mono ?_; rintro e w9 ⟨ch, rfl, hgr, g, rfl, hg, hbb⟩; refine Function.const (wpAny Tryf.prog .gc #[] (fun _ _ _ => True) 0 #[] { tmps := #[], defers := [] } w9) ⟨rfl, one_trans (one_drew HG1.out) hgr, _, 3, rfl, g, rfl, Nat.le_trans (Nat.le_of_lt hb1) hg, hbb⟩ ?_)
  all_goals trivial
end Go.Proofs.YtcfhhcjcnafcjaaFmt
