/-
  Rounds of parsePattern: the end, a closing parenthesis, a position capture, a capture, a plain byte, the anchored tail, a dollar, an escaped byte. Conditions as each statement says.
-/
import Derived.Test.YtcfhhcjcnafcjaaFmtPatAll
namespace Go.Proofs.YtcfhhcjcnafcjaaFmt
open Go.RowKit
set_option linter.unusedVariables false
set_option linter.unusedSimpArgs false


set_option maxHeartbeats 4000000 in
set_option maxRecDepth 1000000 in
theorem pp_fin {w wr : World} {B b : Nat} {sao : Option Addr} {scap : Nat} {zs : List Int} {top must : Bool} {r : PR} {cs c s' : Nat} {q : Bool} {ao : Option Addr} {cap : Nat} {acc : List Pt} {vs : List Value} {K : Act → World → Prop}
    (hB : w.heap.size = B) (hb : b < B) (hsr : ∀ sb so, sao = some ⟨sb, so, none⟩ → sb < B) (h0 : 0 < zs.length) (hl : zs.length ≤ 4194304) (ih : PIh b sao scap zs cs)
    (ho : PatO wr B B must q ao cap acc vs) (hs : Scan wr b sao scap zs c s') (hg : w.grownBy wr (some b)) (hle : acc.length ≤ c) (hcm : cs ≤ c) (hcb : c ≤ zs.length + 1)
    (hK : ∀ a' w' c', c < c' → PFr b B top a' → PRel w B b sao scap zs top must r cs w' c' → K a' w')
    (hfin : zs.length ≤ c) (hr : PR.ok acc q (zs.length + 1) = r) (f : Nat → Value) :
    ppBody.wp Tryf.prog (Exit.then K (PQ w B b sao scap zs top must r)) { tmps := #[.pointer (some ⟨b, 0, none⟩), .bool top, f 2, f 3, f 4, .pointer (some ⟨B, 0, none⟩), f 6, f 7, f 8, f 9, f 10, f 11, f 12, f 13, f 14, f 15, f 16, f 17, f 18, f 19, f 20, f 21, f 22, f 23, f 24, f 25, f 26, f 27, f 28, f 29, f 30, f 31, f 32, f 33, f 34, f 35, f 36, f 37, f 38, f 39, f 40, f 41, f 42, f 43, f 44, f 45, f 46, f 47, f 48, f 49, f 50, f 51, f 52, f 53, f 54, f 55, f 56, f 57, f 58, f 59, f 60, f 61, f 62, f 63, f 64, f 65, f 66, f 67, f 68, f 69, f 70, f 71, f 72, f 73, f 74, f 75, f 76, f 77, f 78, f 79, f 80, f 81, f 82, f 83, f 84, f 85, f 86, f 87, f 88, f 89, f 90, f 91, f 92, f 93, f 94, f 95, f 96, f 97, f 98, f 99, f 100, f 101, f 102, f 103, f 104, f 105, f 106, f 107, f 108, f 109, f 110, f 111, f 112, f 113, f 114, f 115, f 116, f 117, f 118, f 119, f 120, f 121, f 122, f 123, f 124, f 125, f 126, f 127, f 128, f 129, f 130, f 131, f 132, f 133, f 134, f 135, f 136, f 137, f 138, f 139, f 140, f 141, f 142, f 143, f 144, f 145, f 146, f 147, f 148, f 149, f 150, f 151, f 152, f 153, f 154, f 155, f 156, f 157, f 158, f 159, f 160, f 161, f 162, f 163, f 164, f 165, f 166, f 167, f 168, f 169, f 170, f 171, f 172, f 173, f 174, f 175, f 176, f 177, f 178, f 179, f 180, f 181, f 182, f 183, f 184, f 185, f 186, f 187, f 188, f 189, f 190, f 191, f 192, f 193, f 194, f 195, f 196, f 197, f 198, f 199, f 200, f 201, f 202, f 203, f 204, f 205, f 206, f 207, f 208, f 209, f 210, f 211, f 212, f 213, f 214, f 215, f 216, f 217, f 218, f 219, f 220, f 221, f 222, f 223, f 224, f 225, f 226, f 227, f 228, f 229, f 230, f 231, f 232, f 233, f 234, f 235, f 236, f 237, f 238, f 239, f 240, f 241, f 242, f 243, f 244, f 245, f 246, f 247, f 248, f 249, f 250, f 251, f 252, f 253, f 254, f 255, f 256, f 257, f 258, f 259, f 260, f 261, f 262, f 263, f 264, f 265, f 266, f 267, f 268, f 269, f 270, f 271, f 272, f 273, f 274, f 275, f 276, f 277, f 278, f 279, f 280, f 281, f 282, f 283, f 284, f 285, f 286, f 287, f 288, f 289, f 290, f 291, f 292, f 293, f 294, f 295, f 296, f 297, f 298, f 299, f 300, f 301, f 302, f 303, f 304, f 305, f 306, f 307], defers := [] } wr := by
  subst hr
  obtain ⟨i0, hi, hz0, hz1, hz2⟩ := info_parts pattern_info
  have hbw := Lib.hid hb
  have hsrc := Lib.hid hsr
  have HB := Lib.hid hB
  have IH := Lib.hid ih
  have HOr := Lib.hid ho
  have HSr := Lib.hid hs
  have HGr := Lib.hid hg
  have HK := Lib.hid hK
  clear hB hb hsr ih ho hs hg hK
  conv => arg 2; whnf
  have hz : chr zs c = -1 := by unfold chr; rw [if_neg (by omega)]
  have HZ := Lib.hid hz
  clear hz
  go_wp2_with fail
  refine (peek_at HSr.out h0 HZ.out).mono ?_
  rintro e w1 ⟨rfl, hs1, hg1⟩
  have HO1 := Lib.hid (HOr.out.call hg1 hbw.out)
  have HS1 := Lib.hid hs1
  have HG1 := Lib.hid (one_trans HGr.out hg1)
  clear hs1 hg1
  go_wp2_with fail
  refine (next_top HS1.out hfin).mono ?_
  rintro e w2 ⟨rfl, hs2, hg2⟩
  have HO2 := Lib.hid (HO1.out.call hg2 hbw.out)
  have HS2 := Lib.hid hs2
  have HG2 := Lib.hid (one_trans HG1.out hg2)
  clear hs2 hg2
  go_wp2_with fail
  go_step3
  exact ⟨rfl, ⟨rfl, rfl, rfl, rfl, rfl⟩, ⟨_, _, _, _, _, _, _, rfl, HO2.out, HS2.out, HG2.out⟩⟩




set_option maxHeartbeats 4000000 in
set_option maxRecDepth 1000000 in
theorem pp_close {w wr : World} {B b : Nat} {sao : Option Addr} {scap : Nat} {zs : List Int} {must : Bool} {r : PR} {cs c s' : Nat} {q : Bool} {ao : Option Addr} {cap : Nat} {acc : List Pt} {vs : List Value} {K : Act → World → Prop}
    (hB : w.heap.size = B) (hb : b < B) (hsr : ∀ sb so, sao = some ⟨sb, so, none⟩ → sb < B) (h0 : 0 < zs.length) (hl : zs.length ≤ 4194304) (ih : PIh b sao scap zs cs)
    (ho : PatO wr B B must q ao cap acc vs) (hs : Scan wr b sao scap zs c s') (hg : w.grownBy wr (some b)) (hle : acc.length ≤ c) (hcm : cs ≤ c) (hcb : c ≤ zs.length + 1)
    (hK : ∀ a' w' c', c < c' → PFr b B false a' → PRel w B b sao scap zs false must r cs w' c' → K a' w')
    (hz : chr zs c = 41) (hr : PR.ok acc q c = r) (f : Nat → Value) :
    ppBody.wp Tryf.prog (Exit.then K (PQ w B b sao scap zs false must r)) { tmps := #[.pointer (some ⟨b, 0, none⟩), .bool false, f 2, f 3, f 4, .pointer (some ⟨B, 0, none⟩), f 6, f 7, f 8, f 9, f 10, f 11, f 12, f 13, f 14, f 15, f 16, f 17, f 18, f 19, f 20, f 21, f 22, f 23, f 24, f 25, f 26, f 27, f 28, f 29, f 30, f 31, f 32, f 33, f 34, f 35, f 36, f 37, f 38, f 39, f 40, f 41, f 42, f 43, f 44, f 45, f 46, f 47, f 48, f 49, f 50, f 51, f 52, f 53, f 54, f 55, f 56, f 57, f 58, f 59, f 60, f 61, f 62, f 63, f 64, f 65, f 66, f 67, f 68, f 69, f 70, f 71, f 72, f 73, f 74, f 75, f 76, f 77, f 78, f 79, f 80, f 81, f 82, f 83, f 84, f 85, f 86, f 87, f 88, f 89, f 90, f 91, f 92, f 93, f 94, f 95, f 96, f 97, f 98, f 99, f 100, f 101, f 102, f 103, f 104, f 105, f 106, f 107, f 108, f 109, f 110, f 111, f 112, f 113, f 114, f 115, f 116, f 117, f 118, f 119, f 120, f 121, f 122, f 123, f 124, f 125, f 126, f 127, f 128, f 129, f 130, f 131, f 132, f 133, f 134, f 135, f 136, f 137, f 138, f 139, f 140, f 141, f 142, f 143, f 144, f 145, f 146, f 147, f 148, f 149, f 150, f 151, f 152, f 153, f 154, f 155, f 156, f 157, f 158, f 159, f 160, f 161, f 162, f 163, f 164, f 165, f 166, f 167, f 168, f 169, f 170, f 171, f 172, f 173, f 174, f 175, f 176, f 177, f 178, f 179, f 180, f 181, f 182, f 183, f 184, f 185, f 186, f 187, f 188, f 189, f 190, f 191, f 192, f 193, f 194, f 195, f 196, f 197, f 198, f 199, f 200, f 201, f 202, f 203, f 204, f 205, f 206, f 207, f 208, f 209, f 210, f 211, f 212, f 213, f 214, f 215, f 216, f 217, f 218, f 219, f 220, f 221, f 222, f 223, f 224, f 225, f 226, f 227, f 228, f 229, f 230, f 231, f 232, f 233, f 234, f 235, f 236, f 237, f 238, f 239, f 240, f 241, f 242, f 243, f 244, f 245, f 246, f 247, f 248, f 249, f 250, f 251, f 252, f 253, f 254, f 255, f 256, f 257, f 258, f 259, f 260, f 261, f 262, f 263, f 264, f 265, f 266, f 267, f 268, f 269, f 270, f 271, f 272, f 273, f 274, f 275, f 276, f 277, f 278, f 279, f 280, f 281, f 282, f 283, f 284, f 285, f 286, f 287, f 288, f 289, f 290, f 291, f 292, f 293, f 294, f 295, f 296, f 297, f 298, f 299, f 300, f 301, f 302, f 303, f 304, f 305, f 306, f 307], defers := [] } wr := by
  subst hr
  obtain ⟨i0, hi, hz0, hz1, hz2⟩ := info_parts pattern_info
  have hbw := Lib.hid hb
  have hsrc := Lib.hid hsr
  have HB := Lib.hid hB
  have IH := Lib.hid ih
  have HOr := Lib.hid ho
  have HSr := Lib.hid hs
  have HGr := Lib.hid hg
  have HK := Lib.hid hK
  clear hB hb hsr ih ho hs hg hK
  conv => arg 2; whnf
  have HZ := Lib.hid hz
  clear hz
  go_wp2_with fail
  refine (peek_at HSr.out h0 HZ.out).mono ?_
  rintro e w1 ⟨rfl, hs1, hg1⟩
  have HO1 := Lib.hid (HOr.out.call hg1 hbw.out)
  have HS1 := Lib.hid hs1
  have HG1 := Lib.hid (one_trans HGr.out hg1)
  clear hs1 hg1
  go_wp2_with fail
  refine ⟨⟨rfl, rfl, rfl, rfl, ?_⟩, ?_, ⟨_, _, _, _, _, _, _, rfl, HO1.out, HS1.out, HG1.out⟩⟩
  all_goals rfl




set_option maxHeartbeats 4000000 in
set_option maxRecDepth 1000000 in
theorem pp_posc {w wr : World} {B b : Nat} {sao : Option Addr} {scap : Nat} {zs : List Int} {top must : Bool} {r : PR} {cs c s' : Nat} {q : Bool} {ao : Option Addr} {cap : Nat} {acc : List Pt} {vs : List Value} {K : Act → World → Prop}
    (hB : w.heap.size = B) (hb : b < B) (hsr : ∀ sb so, sao = some ⟨sb, so, none⟩ → sb < B) (h0 : 0 < zs.length) (hl : zs.length ≤ 4194304) (ih : PIh b sao scap zs cs)
    (ho : PatO wr B B must q ao cap acc vs) (hs : Scan wr b sao scap zs c s') (hg : w.grownBy wr (some b)) (hle : acc.length ≤ c) (hcm : cs ≤ c) (hcb : c ≤ zs.length + 1)
    (hK : ∀ a' w' c', c < c' → PFr b B top a' → PRel w B b sao scap zs top must r cs w' c' → K a' w')
    (hz : chr zs c = 40) (h41 : chr zs (c + 1) = 41) (hr2 : PRun zs top (c + 2) (acc ++ [.pos]) q r) (f : Nat → Value) :
    ppBody.wp Tryf.prog (Exit.then K (PQ w B b sao scap zs top must r)) { tmps := #[.pointer (some ⟨b, 0, none⟩), .bool top, f 2, f 3, f 4, .pointer (some ⟨B, 0, none⟩), f 6, f 7, f 8, f 9, f 10, f 11, f 12, f 13, f 14, f 15, f 16, f 17, f 18, f 19, f 20, f 21, f 22, f 23, f 24, f 25, f 26, f 27, f 28, f 29, f 30, f 31, f 32, f 33, f 34, f 35, f 36, f 37, f 38, f 39, f 40, f 41, f 42, f 43, f 44, f 45, f 46, f 47, f 48, f 49, f 50, f 51, f 52, f 53, f 54, f 55, f 56, f 57, f 58, f 59, f 60, f 61, f 62, f 63, f 64, f 65, f 66, f 67, f 68, f 69, f 70, f 71, f 72, f 73, f 74, f 75, f 76, f 77, f 78, f 79, f 80, f 81, f 82, f 83, f 84, f 85, f 86, f 87, f 88, f 89, f 90, f 91, f 92, f 93, f 94, f 95, f 96, f 97, f 98, f 99, f 100, f 101, f 102, f 103, f 104, f 105, f 106, f 107, f 108, f 109, f 110, f 111, f 112, f 113, f 114, f 115, f 116, f 117, f 118, f 119, f 120, f 121, f 122, f 123, f 124, f 125, f 126, f 127, f 128, f 129, f 130, f 131, f 132, f 133, f 134, f 135, f 136, f 137, f 138, f 139, f 140, f 141, f 142, f 143, f 144, f 145, f 146, f 147, f 148, f 149, f 150, f 151, f 152, f 153, f 154, f 155, f 156, f 157, f 158, f 159, f 160, f 161, f 162, f 163, f 164, f 165, f 166, f 167, f 168, f 169, f 170, f 171, f 172, f 173, f 174, f 175, f 176, f 177, f 178, f 179, f 180, f 181, f 182, f 183, f 184, f 185, f 186, f 187, f 188, f 189, f 190, f 191, f 192, f 193, f 194, f 195, f 196, f 197, f 198, f 199, f 200, f 201, f 202, f 203, f 204, f 205, f 206, f 207, f 208, f 209, f 210, f 211, f 212, f 213, f 214, f 215, f 216, f 217, f 218, f 219, f 220, f 221, f 222, f 223, f 224, f 225, f 226, f 227, f 228, f 229, f 230, f 231, f 232, f 233, f 234, f 235, f 236, f 237, f 238, f 239, f 240, f 241, f 242, f 243, f 244, f 245, f 246, f 247, f 248, f 249, f 250, f 251, f 252, f 253, f 254, f 255, f 256, f 257, f 258, f 259, f 260, f 261, f 262, f 263, f 264, f 265, f 266, f 267, f 268, f 269, f 270, f 271, f 272, f 273, f 274, f 275, f 276, f 277, f 278, f 279, f 280, f 281, f 282, f 283, f 284, f 285, f 286, f 287, f 288, f 289, f 290, f 291, f 292, f 293, f 294, f 295, f 296, f 297, f 298, f 299, f 300, f 301, f 302, f 303, f 304, f 305, f 306, f 307], defers := [] } wr := by
  obtain ⟨i0, hi, hz0, hz1, hz2⟩ := info_parts pattern_info
  have hbw := Lib.hid hb
  have hsrc := Lib.hid hsr
  have HB := Lib.hid hB
  have IH := Lib.hid ih
  have HOr := Lib.hid ho
  have HSr := Lib.hid hs
  have HGr := Lib.hid hg
  have HK := Lib.hid hK
  clear hB hb hsr ih ho hs hg hK
  conv => arg 2; whnf
  have hlt : c < zs.length := chr_lt (by rw [hz]; omega)
  have hlt2 : c + 1 < zs.length := chr_lt (by rw [h41]; omega)
  have HZ := Lib.hid hz
  have HY := Lib.hid h41
  have HR := Lib.hid hr2
  clear hz h41 hr2
  go_wp2_with fail
  refine (peek_at HSr.out h0 HZ.out).mono ?_
  rintro e w1 ⟨rfl, hs1, hg1⟩
  have HO1 := Lib.hid (HOr.out.call hg1 hbw.out)
  have HS1 := Lib.hid hs1
  have HG1 := Lib.hid (one_trans HGr.out hg1)
  clear hs1 hg1
  go_wp2_with fail
  refine (next_at HS1.out (by omega) HZ.out).mono ?_
  rintro e w2 ⟨rfl, hs2, hg2⟩
  have HO2 := Lib.hid (HO1.out.call hg2 hbw.out)
  have HS2 := Lib.hid hs2
  have HG2 := Lib.hid (one_trans HG1.out hg2)
  clear hs2 hg2
  go_wp2_with fail
  refine (peek_at HS2.out h0 HY.out).mono ?_
  rintro e w3 ⟨rfl, hs3, hg3⟩
  have HO3 := Lib.hid (HO2.out.call hg3 hbw.out)
  have HS3 := Lib.hid hs3
  have HG3 := Lib.hid (one_trans HG2.out hg3)
  clear hs3 hg3
  go_wp2_with fail
  refine (next_at HS3.out (by omega) HY.out).mono ?_
  rintro e w4 ⟨rfl, hs4, hg4⟩
  have HO4 := Lib.hid (HO3.out.call hg4 hbw.out)
  have HS4 := Lib.hid hs4
  have HG4 := Lib.hid (one_trans HG3.out hg4)
  clear hs4 hg4
  have k4 : w4.cell? ⟨B, 2, none⟩ = some (.slice ao acc.length cap) := blk_cell HO4.out.blk 2 _ rfl
  have f4 : w4.frozen? ⟨B, 2, none⟩ = false := blk_free HO4.out.blk 2
  go_wp2_with (at_builtin; refine wpList_push _ rfl (.tmp 156) (.tmp 160) 74 rfl B 105 i0 .nilIface 1 16 Tryf.underlying74 hi hz0 hz1 hz2 rfl (by decide) _ _ _ _ rfl ((HO4.out.own.alloc _).alloc _) ⟨w4.heap.size + 1, 0, none⟩ 1 1 [.iface 101 (.pointer (some ⟨w4.heap.size, 0, none⟩))] rfl rfl (news_at2 (by simp)) (fun u hu => by simp at hu; subst hu; rfl) (by decide) (by unfold maxLen; omega) (by omega) (by have := HO4.out.hm; have := blk_lt HO4.out.blk; simp; omega) ?_; intro g1 c1 w8 hown' hgrow hwhere; have HO' := Lib.hid hown'; have HGw := Lib.hid hgrow; have HWh := Lib.hid hwhere; clear hown' hgrow hwhere; have hb8 := blk_grown ((HO4.out.alloc _).alloc _).blk HGw.out (fun e => by have := HO4.out.row _ e.symm; omega); have k8 : w8.cell? ⟨B, 2, none⟩ = some (.slice ao acc.length cap) := blk_cell hb8 2 _ rfl; have f8 : w8.frozen? ⟨B, 2, none⟩ = false := blk_free hb8 2; clear hb8)
  have HAF := Lib.hid (afterIt_mk HB.out hbw.out hsrc.out ((HO4.out.alloc _).alloc _) (it_pos _ _ _) ((HS4.out.grownAlloc _).grownAlloc _) (one_alloc (one_alloc HG4.out _) _) HGw.out HO'.out HWh.out)
  obtain ⟨g2, cp2, v2, ho, hs, hg⟩ := HAF.out
  exact HK.out _ _ (c + 2) (by omega) ⟨rfl, rfl, rfl, rfl, rfl⟩ ⟨s', q, some ⟨g2, 0, none⟩, cp2, _, vs ++ [v2], ho, hs, hg, HR.out, by simp; omega, by omega, by omega⟩




set_option maxHeartbeats 4000000 in
set_option maxRecDepth 1000000 in
theorem pp_capt {w wr : World} {B b : Nat} {sao : Option Addr} {scap : Nat} {zs : List Int} {top must : Bool} {r : PR} {cs c s' : Nat} {q : Bool} {ao : Option Addr} {cap : Nat} {acc : List Pt} {vs : List Value} {K : Act → World → Prop}
    (hB : w.heap.size = B) (hb : b < B) (hsr : ∀ sb so, sao = some ⟨sb, so, none⟩ → sb < B) (h0 : 0 < zs.length) (hl : zs.length ≤ 4194304) (ih : PIh b sao scap zs cs)
    (ho : PatO wr B B must q ao cap acc vs) (hs : Scan wr b sao scap zs c s') (hg : w.grownBy wr (some b)) (hle : acc.length ≤ c) (hcm : cs ≤ c) (hcb : c ≤ zs.length + 1)
    (hK : ∀ a' w' c', c < c' → PFr b B top a' → PRel w B b sao scap zs top must r cs w' c' → K a' w')
    {l1 : List Pt} {ce : Nat} {q1 : Bool} (hz : chr zs c = 40) (h41 : chr zs (c + 1) ≠ 41) (hin : PRun zs false (c + 1) [] false (.ok l1 q1 ce)) (hcl : chr zs ce = 41) (hr2 : PRun zs top (ce + 1) (acc ++ [.cap l1]) q r) (f : Nat → Value) :
    ppBody.wp Tryf.prog (Exit.then K (PQ w B b sao scap zs top must r)) { tmps := #[.pointer (some ⟨b, 0, none⟩), .bool top, f 2, f 3, f 4, .pointer (some ⟨B, 0, none⟩), f 6, f 7, f 8, f 9, f 10, f 11, f 12, f 13, f 14, f 15, f 16, f 17, f 18, f 19, f 20, f 21, f 22, f 23, f 24, f 25, f 26, f 27, f 28, f 29, f 30, f 31, f 32, f 33, f 34, f 35, f 36, f 37, f 38, f 39, f 40, f 41, f 42, f 43, f 44, f 45, f 46, f 47, f 48, f 49, f 50, f 51, f 52, f 53, f 54, f 55, f 56, f 57, f 58, f 59, f 60, f 61, f 62, f 63, f 64, f 65, f 66, f 67, f 68, f 69, f 70, f 71, f 72, f 73, f 74, f 75, f 76, f 77, f 78, f 79, f 80, f 81, f 82, f 83, f 84, f 85, f 86, f 87, f 88, f 89, f 90, f 91, f 92, f 93, f 94, f 95, f 96, f 97, f 98, f 99, f 100, f 101, f 102, f 103, f 104, f 105, f 106, f 107, f 108, f 109, f 110, f 111, f 112, f 113, f 114, f 115, f 116, f 117, f 118, f 119, f 120, f 121, f 122, f 123, f 124, f 125, f 126, f 127, f 128, f 129, f 130, f 131, f 132, f 133, f 134, f 135, f 136, f 137, f 138, f 139, f 140, f 141, f 142, f 143, f 144, f 145, f 146, f 147, f 148, f 149, f 150, f 151, f 152, f 153, f 154, f 155, f 156, f 157, f 158, f 159, f 160, f 161, f 162, f 163, f 164, f 165, f 166, f 167, f 168, f 169, f 170, f 171, f 172, f 173, f 174, f 175, f 176, f 177, f 178, f 179, f 180, f 181, f 182, f 183, f 184, f 185, f 186, f 187, f 188, f 189, f 190, f 191, f 192, f 193, f 194, f 195, f 196, f 197, f 198, f 199, f 200, f 201, f 202, f 203, f 204, f 205, f 206, f 207, f 208, f 209, f 210, f 211, f 212, f 213, f 214, f 215, f 216, f 217, f 218, f 219, f 220, f 221, f 222, f 223, f 224, f 225, f 226, f 227, f 228, f 229, f 230, f 231, f 232, f 233, f 234, f 235, f 236, f 237, f 238, f 239, f 240, f 241, f 242, f 243, f 244, f 245, f 246, f 247, f 248, f 249, f 250, f 251, f 252, f 253, f 254, f 255, f 256, f 257, f 258, f 259, f 260, f 261, f 262, f 263, f 264, f 265, f 266, f 267, f 268, f 269, f 270, f 271, f 272, f 273, f 274, f 275, f 276, f 277, f 278, f 279, f 280, f 281, f 282, f 283, f 284, f 285, f 286, f 287, f 288, f 289, f 290, f 291, f 292, f 293, f 294, f 295, f 296, f 297, f 298, f 299, f 300, f 301, f 302, f 303, f 304, f 305, f 306, f 307], defers := [] } wr := by
  obtain ⟨i0, hi, hz0, hz1, hz2⟩ := info_parts pattern_info
  have hbw := Lib.hid hb
  have hsrc := Lib.hid hsr
  have HB := Lib.hid hB
  have IH := Lib.hid ih
  have HOr := Lib.hid ho
  have HSr := Lib.hid hs
  have HGr := Lib.hid hg
  have HK := Lib.hid hK
  clear hB hb hsr ih ho hs hg hK
  conv => arg 2; whnf
  have hlt : c < zs.length := chr_lt (by rw [hz]; omega)
  have hge := PRun.le hin (by omega) rfl
  have hlt1 : ce < zs.length := chr_lt (by rw [hcl]; omega)
  obtain ⟨y, hy⟩ : ∃ y, chr zs (c + 1) = y := ⟨_, rfl⟩
  rw [hy] at h41
  have y41 : (y == 41) = false := by simpa using h41
  have HZ := Lib.hid hz
  have HY := Lib.hid hy
  have HIN := Lib.hid hin
  have HCL := Lib.hid hcl
  have HR := Lib.hid hr2
  clear hz hy h41 hin hcl hr2
  go_wp2_with fail
  refine (peek_at HSr.out h0 HZ.out).mono ?_
  rintro e w1 ⟨rfl, hs1, hg1⟩
  have HO1 := Lib.hid (HOr.out.call hg1 hbw.out)
  have HS1 := Lib.hid hs1
  have HG1 := Lib.hid (one_trans HGr.out hg1)
  clear hs1 hg1
  go_wp2_with fail
  refine (next_at HS1.out (by omega) HZ.out).mono ?_
  rintro e w2 ⟨rfl, hs2, hg2⟩
  have HO2 := Lib.hid (HO1.out.call hg2 hbw.out)
  have HS2 := Lib.hid hs2
  have HG2 := Lib.hid (one_trans HG1.out hg2)
  clear hs2 hg2
  go_wp2_with fail
  refine (peek_at HS2.out h0 HY.out).mono ?_
  rintro e w3 ⟨rfl, hs3, hg3⟩
  have HO3 := Lib.hid (HO2.out.call hg3 hbw.out)
  have HS3 := Lib.hid hs3
  have HG3 := Lib.hid (one_trans HG2.out hg3)
  clear hs3 hg3
  go_wp2_with fail
  refine (IH.out _ _ _ _ HS3.out (by omega) (by omega) HIN.out).mono ?_
  rintro e w4 ⟨q4, ao4, cap4, vs4, s4, rfl, hq4, hp4, hs4, hg4⟩
  have HO4 := Lib.hid (HO3.out.call hg4 hbw.out)
  have HS4 := Lib.hid hs4
  have HG4 := Lib.hid (one_trans HG3.out hg4)
  have HP4 := Lib.hid hp4
  have HQ4 := Lib.hid hq4
  have HB3 := Lib.hid (show b < w3.heap.size from blk_lt HS3.out.blk)
  have hs5 : (w4.alloc (.cells #[.iface 66 (.pointer (some ⟨q4, 0, none⟩))] 107)).heap.size = w4.heap.size + 1 := by simp
  have HC5 := Lib.hid (blk_new w4 (.cells #[.iface 66 (.pointer (some ⟨q4, 0, none⟩))] 107))
  have HO5 := Lib.hid (HO4.out.alloc (.cells #[.iface 66 (.pointer (some ⟨q4, 0, none⟩))] 107))
  have HS5 := Lib.hid (HS4.out.grownAlloc (.cells #[.iface 66 (.pointer (some ⟨q4, 0, none⟩))] 107))
  have HG5 := Lib.hid (one_alloc HG4.out (.cells #[.iface 66 (.pointer (some ⟨q4, 0, none⟩))] 107))
  have HP5 := Lib.hid (HP4.out.alloc (.cells #[.iface 66 (.pointer (some ⟨q4, 0, none⟩))] 107))
  have hlt4 : b < w4.heap.size := blk_lt HS4.out.blk
  have hl34 : w3.heap.size ≤ w4.heap.size := hg4.size
  clear hq4 hp4 hs4 hg4 hs5
  go_wp2_with fail
  generalize w4.alloc (.cells #[.iface 66 (.pointer (some ⟨q4, 0, none⟩))] 107) = w5 at *
  refine (peek_at HS5.out h0 HCL.out).mono ?_
  rintro e w6 ⟨rfl, hs6, hg6⟩
  have HO6 := Lib.hid (HO5.out.call hg6 hbw.out)
  have HS6 := Lib.hid hs6
  have HG6 := Lib.hid (one_trans HG5.out hg6)
  have HP6 := Lib.hid (HP5.out.call hg6 HB3.out)
  have HC6 := Lib.hid (blk_grown HC5.out hg6 (fun e => by injection e; omega))
  clear hs6 hg6
  go_wp2_with fail
  refine (next_at HS6.out (by omega) HCL.out).mono ?_
  rintro e w7 ⟨rfl, hs7, hg7⟩
  have HO7 := Lib.hid (HO6.out.call hg7 hbw.out)
  have HS7 := Lib.hid hs7
  have HG7 := Lib.hid (one_trans HG6.out hg7)
  have HP7 := Lib.hid (HP6.out.call hg7 HB3.out)
  have HC7 := Lib.hid (blk_grown HC6.out hg7 (fun e => by injection e; omega))
  have hx3 := xlt HO3.out
  have HX3 := Lib.hid hx3
  clear hs7 hg7 HC5 HC6 HP4 HP5 HP6 hx3
  have k7 : w7.cell? ⟨B, 2, none⟩ = some (.slice ao acc.length cap) := blk_cell HO7.out.blk 2 _ rfl
  have f7 : w7.frozen? ⟨B, 2, none⟩ = false := blk_free HO7.out.blk 2
  have HIT := Lib.hid (it_cap (o := .cells #[.iface 104 (.pointer (some ⟨w4.heap.size, 0, none⟩))] 105) HP7.out HC7.out (fun k hk => HX3.out k hk) hl34 HQ4.out)
  go_wp2_with (at_builtin; refine wpList_push _ rfl (.tmp 182) (.tmp 185) 74 rfl B 105 i0 .nilIface 1 16 Tryf.underlying74 hi hz0 hz1 hz2 rfl (by decide) _ _ _ _ rfl (HO7.out.own.alloc _) ⟨w7.heap.size, 0, none⟩ 1 1 [.iface 104 (.pointer (some ⟨w4.heap.size, 0, none⟩))] rfl rfl (news_at2 (by simp)) (fun u hu => by simp at hu; subst hu; rfl) (by decide) (by unfold maxLen; omega) (by omega) (by have := HO7.out.hm; have := blk_lt HO7.out.blk; simp; omega) ?_; intro g1 c1 w8 hown' hgrow hwhere; have HO' := Lib.hid hown'; have HGw := Lib.hid hgrow; have HWh := Lib.hid hwhere; clear hown' hgrow hwhere; have hb8 := blk_grown (HO7.out.alloc _).blk HGw.out (fun e => by have := HO7.out.row _ e.symm; omega); have k8 : w8.cell? ⟨B, 2, none⟩ = some (.slice ao acc.length cap) := blk_cell hb8 2 _ rfl; have f8 : w8.frozen? ⟨B, 2, none⟩ = false := blk_free hb8 2; clear hb8)
  have HAF := Lib.hid (afterIt_mk HB.out hbw.out hsrc.out (HO7.out.alloc _) (HIT.out) (HS7.out.grownAlloc _) (one_alloc HG7.out _) HGw.out HO'.out HWh.out)
  obtain ⟨g2, cp2, v2, ho, hs, hg⟩ := HAF.out
  exact HK.out _ _ (ce + 1) (by omega) ⟨rfl, rfl, rfl, rfl, rfl⟩ ⟨s4, q, some ⟨g2, 0, none⟩, cp2, _, vs ++ [v2], ho, hs, hg, HR.out, by simp; omega, by omega, by omega⟩




set_option maxHeartbeats 4000000 in
set_option maxRecDepth 1000000 in
theorem pp_lit {w wr : World} {B b : Nat} {sao : Option Addr} {scap : Nat} {zs : List Int} {top must : Bool} {r : PR} {cs c s' : Nat} {q : Bool} {ao : Option Addr} {cap : Nat} {acc : List Pt} {vs : List Value} {K : Act → World → Prop}
    (hB : w.heap.size = B) (hb : b < B) (hsr : ∀ sb so, sao = some ⟨sb, so, none⟩ → sb < B) (h0 : 0 < zs.length) (hl : zs.length ≤ 4194304) (ih : PIh b sao scap zs cs)
    (ho : PatO wr B B must q ao cap acc vs) (hs : Scan wr b sao scap zs c s') (hg : w.grownBy wr (some b)) (hle : acc.length ≤ c) (hcm : cs ≤ c) (hcb : c ≤ zs.length + 1)
    (hK : ∀ a' w' c', c < c' → PFr b B top a' → PRel w B b sao scap zs top must r cs w' c' → K a' w')
    (hlt : c < zs.length) (hne : ∀ z, z ∈ ([37, 46, 91, 93, 41, 40, 42, 43, 45, 63, 36] : List Int) → chr zs c ≠ z) (hr2 : PRun zs top (c + 1) (acc ++ [.one (.el (.chr (chr zs c)))]) q r) (f : Nat → Value) :
    ppBody.wp Tryf.prog (Exit.then K (PQ w B b sao scap zs top must r)) { tmps := #[.pointer (some ⟨b, 0, none⟩), .bool top, f 2, f 3, f 4, .pointer (some ⟨B, 0, none⟩), f 6, f 7, f 8, f 9, f 10, f 11, f 12, f 13, f 14, f 15, f 16, f 17, f 18, f 19, f 20, f 21, f 22, f 23, f 24, f 25, f 26, f 27, f 28, f 29, f 30, f 31, f 32, f 33, f 34, f 35, f 36, f 37, f 38, f 39, f 40, f 41, f 42, f 43, f 44, f 45, f 46, f 47, f 48, f 49, f 50, f 51, f 52, f 53, f 54, f 55, f 56, f 57, f 58, f 59, f 60, f 61, f 62, f 63, f 64, f 65, f 66, f 67, f 68, f 69, f 70, f 71, f 72, f 73, f 74, f 75, f 76, f 77, f 78, f 79, f 80, f 81, f 82, f 83, f 84, f 85, f 86, f 87, f 88, f 89, f 90, f 91, f 92, f 93, f 94, f 95, f 96, f 97, f 98, f 99, f 100, f 101, f 102, f 103, f 104, f 105, f 106, f 107, f 108, f 109, f 110, f 111, f 112, f 113, f 114, f 115, f 116, f 117, f 118, f 119, f 120, f 121, f 122, f 123, f 124, f 125, f 126, f 127, f 128, f 129, f 130, f 131, f 132, f 133, f 134, f 135, f 136, f 137, f 138, f 139, f 140, f 141, f 142, f 143, f 144, f 145, f 146, f 147, f 148, f 149, f 150, f 151, f 152, f 153, f 154, f 155, f 156, f 157, f 158, f 159, f 160, f 161, f 162, f 163, f 164, f 165, f 166, f 167, f 168, f 169, f 170, f 171, f 172, f 173, f 174, f 175, f 176, f 177, f 178, f 179, f 180, f 181, f 182, f 183, f 184, f 185, f 186, f 187, f 188, f 189, f 190, f 191, f 192, f 193, f 194, f 195, f 196, f 197, f 198, f 199, f 200, f 201, f 202, f 203, f 204, f 205, f 206, f 207, f 208, f 209, f 210, f 211, f 212, f 213, f 214, f 215, f 216, f 217, f 218, f 219, f 220, f 221, f 222, f 223, f 224, f 225, f 226, f 227, f 228, f 229, f 230, f 231, f 232, f 233, f 234, f 235, f 236, f 237, f 238, f 239, f 240, f 241, f 242, f 243, f 244, f 245, f 246, f 247, f 248, f 249, f 250, f 251, f 252, f 253, f 254, f 255, f 256, f 257, f 258, f 259, f 260, f 261, f 262, f 263, f 264, f 265, f 266, f 267, f 268, f 269, f 270, f 271, f 272, f 273, f 274, f 275, f 276, f 277, f 278, f 279, f 280, f 281, f 282, f 283, f 284, f 285, f 286, f 287, f 288, f 289, f 290, f 291, f 292, f 293, f 294, f 295, f 296, f 297, f 298, f 299, f 300, f 301, f 302, f 303, f 304, f 305, f 306, f 307], defers := [] } wr := by
  obtain ⟨i0, hi, hz0, hz1, hz2⟩ := info_parts pattern_info
  have hbw := Lib.hid hb
  have hsrc := Lib.hid hsr
  have HB := Lib.hid hB
  have IH := Lib.hid ih
  have HOr := Lib.hid ho
  have HSr := Lib.hid hs
  have HGr := Lib.hid hg
  have HK := Lib.hid hK
  clear hB hb hsr ih ho hs hg hK
  conv => arg 2; whnf
  have hzb := chr_mem HSr.out.byte hlt
  obtain ⟨z, hz⟩ : ∃ z, chr zs c = z := ⟨_, rfl⟩
  rw [hz] at hne hzb hr2
  have HZ := Lib.hid hz
  have HR := Lib.hid hr2
  have ne1 : (z == 37) = false := by simpa using hne 37 (by simp)
  have ne2 : (z == 46) = false := by simpa using hne 46 (by simp)
  have ne3 : (z == 91) = false := by simpa using hne 91 (by simp)
  have ne4 : (z == 93) = false := by simpa using hne 93 (by simp)
  have ne5 : (z == 41) = false := by simpa using hne 41 (by simp)
  have ne6 : (z == 40) = false := by simpa using hne 40 (by simp)
  have ne7 : (z == 42) = false := by simpa using hne 42 (by simp)
  have ne8 : (z == 43) = false := by simpa using hne 43 (by simp)
  have ne9 : (z == 45) = false := by simpa using hne 45 (by simp)
  have ne10 : (z == 63) = false := by simpa using hne 63 (by simp)
  have ne11 : (z == 36) = false := by simpa using hne 36 (by simp)
  have ne12 : (z == -1) = false := by have := hzb.1; simp; omega
  clear hz hne hr2 hzb
  go_wp2_with fail
  refine (peek_at HSr.out h0 HZ.out).mono ?_
  rintro e w1 ⟨rfl, hs1, hg1⟩
  have HO1 := Lib.hid (HOr.out.call hg1 hbw.out)
  have HS1 := Lib.hid hs1
  have HG1 := Lib.hid (one_trans HGr.out hg1)
  clear hs1 hg1
  go_wp2_with fail
  refine (next_at HS1.out (by omega) HZ.out).mono ?_
  rintro e w2 ⟨rfl, hs2, hg2⟩
  have HO2 := Lib.hid (HO1.out.call hg2 hbw.out)
  have HS2 := Lib.hid hs2
  have HG2 := Lib.hid (one_trans HG1.out hg2)
  clear hs2 hg2
  have k2 : w2.cell? ⟨B, 2, none⟩ = some (.slice ao acc.length cap) := blk_cell HO2.out.blk 2 _ rfl
  have f2 : w2.frozen? ⟨B, 2, none⟩ = false := blk_free HO2.out.blk 2
  go_wp2_with (at_builtin; refine wpList_push _ rfl (.tmp 30) (.tmp 38) 74 rfl B 105 i0 .nilIface 1 16 Tryf.underlying74 hi hz0 hz1 hz2 rfl (by decide) _ _ _ _ rfl (((HO2.out.own.alloc _).alloc _).alloc _) ⟨w2.heap.size + 2, 0, none⟩ 1 1 [.iface 95 (.pointer (some ⟨w2.heap.size + 1, 0, none⟩))] rfl rfl (news_at2 (by simp)) (fun u hu => by simp at hu; subst hu; rfl) (by decide) (by unfold maxLen; omega) (by omega) (by have := HO2.out.hm; have := blk_lt HO2.out.blk; simp; omega) ?_; intro g1 c1 w8 hown' hgrow hwhere; have HO' := Lib.hid hown'; have HGw := Lib.hid hgrow; have HWh := Lib.hid hwhere; clear hown' hgrow hwhere; have hb8 := blk_grown (((HO2.out.alloc _).alloc _).alloc _).blk HGw.out (fun e => by have := HO2.out.row _ e.symm; omega); have k8 : w8.cell? ⟨B, 2, none⟩ = some (.slice ao acc.length cap) := blk_cell hb8 2 _ rfl; have f8 : w8.frozen? ⟨B, 2, none⟩ = false := blk_free hb8 2; clear hb8)
  have HAF := Lib.hid (afterIt_mk HB.out hbw.out hsrc.out (((HO2.out.alloc _).alloc _).alloc _) (it_chr w2 z (xlt HO2.out) _) (((HS2.out.grownAlloc _).grownAlloc _).grownAlloc _) (one_alloc (one_alloc (one_alloc HG2.out _) _) _) HGw.out HO'.out HWh.out)
  obtain ⟨g2, cp2, v2, ho, hs, hg⟩ := HAF.out
  exact HK.out _ _ (c + 1) (by omega) ⟨rfl, rfl, rfl, rfl, rfl⟩ ⟨s', q, some ⟨g2, 0, none⟩, cp2, _, vs ++ [v2], ho, hs, hg, HR.out, by simp; omega, by omega, by omega⟩




set_option maxHeartbeats 4000000 in
set_option maxRecDepth 1000000 in
theorem pp_tail {w wr : World} {B b : Nat} {sao : Option Addr} {scap : Nat} {zs : List Int} {must : Bool} {r : PR} {cs c s' : Nat} {q : Bool} {ao : Option Addr} {cap : Nat} {acc : List Pt} {vs : List Value} {K : Act → World → Prop}
    (hB : w.heap.size = B) (hb : b < B) (hsr : ∀ sb so, sao = some ⟨sb, so, none⟩ → sb < B) (h0 : 0 < zs.length) (hl : zs.length ≤ 4194304) (ih : PIh b sao scap zs cs)
    (ho : PatO wr B B must q ao cap acc vs) (hs : Scan wr b sao scap zs c s') (hg : w.grownBy wr (some b)) (hle : acc.length ≤ c) (hcm : cs ≤ c) (hcb : c ≤ zs.length + 1)
    (hK : ∀ a' w' c', c < c' → PFr b B true a' → PRel w B b sao scap zs true must r cs w' c' → K a' w')
    (hz : chr zs c = 36) (hn : c + 1 = zs.length) (hr2 : PRun zs true (c + 1) acc true r) (f : Nat → Value) :
    ppBody.wp Tryf.prog (Exit.then K (PQ w B b sao scap zs true must r)) { tmps := #[.pointer (some ⟨b, 0, none⟩), .bool true, f 2, f 3, f 4, .pointer (some ⟨B, 0, none⟩), f 6, f 7, f 8, f 9, f 10, f 11, f 12, f 13, f 14, f 15, f 16, f 17, f 18, f 19, f 20, f 21, f 22, f 23, f 24, f 25, f 26, f 27, f 28, f 29, f 30, f 31, f 32, f 33, f 34, f 35, f 36, f 37, f 38, f 39, f 40, f 41, f 42, f 43, f 44, f 45, f 46, f 47, f 48, f 49, f 50, f 51, f 52, f 53, f 54, f 55, f 56, f 57, f 58, f 59, f 60, f 61, f 62, f 63, f 64, f 65, f 66, f 67, f 68, f 69, f 70, f 71, f 72, f 73, f 74, f 75, f 76, f 77, f 78, f 79, f 80, f 81, f 82, f 83, f 84, f 85, f 86, f 87, f 88, f 89, f 90, f 91, f 92, f 93, f 94, f 95, f 96, f 97, f 98, f 99, f 100, f 101, f 102, f 103, f 104, f 105, f 106, f 107, f 108, f 109, f 110, f 111, f 112, f 113, f 114, f 115, f 116, f 117, f 118, f 119, f 120, f 121, f 122, f 123, f 124, f 125, f 126, f 127, f 128, f 129, f 130, f 131, f 132, f 133, f 134, f 135, f 136, f 137, f 138, f 139, f 140, f 141, f 142, f 143, f 144, f 145, f 146, f 147, f 148, f 149, f 150, f 151, f 152, f 153, f 154, f 155, f 156, f 157, f 158, f 159, f 160, f 161, f 162, f 163, f 164, f 165, f 166, f 167, f 168, f 169, f 170, f 171, f 172, f 173, f 174, f 175, f 176, f 177, f 178, f 179, f 180, f 181, f 182, f 183, f 184, f 185, f 186, f 187, f 188, f 189, f 190, f 191, f 192, f 193, f 194, f 195, f 196, f 197, f 198, f 199, f 200, f 201, f 202, f 203, f 204, f 205, f 206, f 207, f 208, f 209, f 210, f 211, f 212, f 213, f 214, f 215, f 216, f 217, f 218, f 219, f 220, f 221, f 222, f 223, f 224, f 225, f 226, f 227, f 228, f 229, f 230, f 231, f 232, f 233, f 234, f 235, f 236, f 237, f 238, f 239, f 240, f 241, f 242, f 243, f 244, f 245, f 246, f 247, f 248, f 249, f 250, f 251, f 252, f 253, f 254, f 255, f 256, f 257, f 258, f 259, f 260, f 261, f 262, f 263, f 264, f 265, f 266, f 267, f 268, f 269, f 270, f 271, f 272, f 273, f 274, f 275, f 276, f 277, f 278, f 279, f 280, f 281, f 282, f 283, f 284, f 285, f 286, f 287, f 288, f 289, f 290, f 291, f 292, f 293, f 294, f 295, f 296, f 297, f 298, f 299, f 300, f 301, f 302, f 303, f 304, f 305, f 306, f 307], defers := [] } wr := by
  obtain ⟨i0, hi, hz0, hz1, hz2⟩ := info_parts pattern_info
  have hbw := Lib.hid hb
  have hsrc := Lib.hid hsr
  have HB := Lib.hid hB
  have IH := Lib.hid ih
  have HOr := Lib.hid ho
  have HSr := Lib.hid hs
  have HGr := Lib.hid hg
  have HK := Lib.hid hK
  clear hB hb hsr ih ho hs hg hK
  conv => arg 2; whnf
  have hlt : c < zs.length := by omega
  have HZ := Lib.hid hz
  have HN := Lib.hid hn
  have HR := Lib.hid hr2
  have hnp : (c = 0 ∧ zs.length = 1) ∨ (nposOf zs.length c = (c : Int) ∧ (c : Int) = (zs.length : Int) - 1) := by
    unfold nposOf
    by_cases h : c = 0 ∧ zs.length = 1
    · exact .inl h
    · right; rw [if_pos ⟨hlt, h⟩]; omega
  have HNP := Lib.hid hnp
  clear hz hn hr2 hnp
  go_wp2_with fail
  refine (peek_at HSr.out h0 HZ.out).mono ?_
  rintro e w1 ⟨rfl, hs1, hg1⟩
  have HO1 := Lib.hid (HOr.out.call hg1 hbw.out)
  have HS1 := Lib.hid hs1
  have HG1 := Lib.hid (one_trans HGr.out hg1)
  clear hs1 hg1
  rcases HNP.out with ⟨hc0, hn1⟩ | ⟨hnp, hcn⟩
  · have t1 : ((-1 : Int) == (zs.length : Int) - 1) = false := by rw [beq_eq_false_iff_ne]; omega
    have HM1 : Hid (nposOf zs.length c = -1) := by unfold Hid nposOf; rw [if_neg (by omega)]
    have HC0 := Lib.hid (And.intro hc0 hn1)
    clear hc0 hn1
    go_wp2_with fail
    refine (npos_is HS1.out HM1).mono ?_
    rintro e w2 ⟨rfl, hs2, hg2⟩
    have HO2 := Lib.hid (HO1.out.call hg2 hbw.out)
    have HS2 := Lib.hid hs2
    have HG2 := Lib.hid (one_trans HG1.out hg2)
    clear hs2 hg2
    go_wp2_with fail
    refine (len_any HS2.out).mono ?_
    rintro e w' ⟨rfl, rfl⟩
    go_wp2_with fail
    refine (npos_is HS2.out HM1).mono ?_
    rintro e w3 ⟨rfl, hs3, hg3⟩
    have HO3 := Lib.hid (HO2.out.call hg3 hbw.out)
    have HS3 := Lib.hid hs3
    have HG3 := Lib.hid (one_trans HG2.out hg3)
    have k3 := blk_cell HO3.out.blk 1 _ rfl
    have f3 := blk_free HO3.out.blk 1
    clear hs3 hg3
    go_wp2_with fail
    refine (next_at (HS3.out.setFar (B := B) (Nat.le_refl _) hbw.out hsrc.out) (by omega) HZ.out).mono ?_
    rintro e w4 ⟨rfl, hs4, hg4⟩
    go_wp2_with fail
    exact HK.out _ _ (c + 1) (by omega) ⟨rfl, rfl, rfl, rfl, rfl⟩ ⟨s', true, ao, cap, acc, vs, (HO3.out.setTail true).call hg4 hbw.out, hs4, one_trans (one_setCell HG3.out (p := ⟨B, 1, none⟩) (.inr (by simp [HB.out])) (.bool true)) hg4, HR.out, by omega, by omega, by omega⟩
  · have t1 : ((c : Int) == (zs.length : Int) - 1) = true := by rw [beq_iff_eq]; exact hcn
    have HM1 : Hid (nposOf zs.length c = (c : Int)) := Lib.hid hnp
    have HC0 := Lib.hid hcn
    clear hnp hcn
    go_wp2_with fail
    refine (npos_is HS1.out HM1).mono ?_
    rintro e w2 ⟨rfl, hs2, hg2⟩
    have HO3 := Lib.hid (HO1.out.call hg2 hbw.out)
    have HS3 := Lib.hid hs2
    have HG3 := Lib.hid (one_trans HG1.out hg2)
    have k3 := blk_cell HO3.out.blk 1 _ rfl
    have f3 := blk_free HO3.out.blk 1
    clear hs2 hg2
    go_wp2_with fail
    refine (len_any HS3.out).mono ?_
    rintro e w' ⟨rfl, rfl⟩
    go_wp2_with fail
    refine (next_at (HS3.out.setFar (B := B) (Nat.le_refl _) hbw.out hsrc.out) (by omega) HZ.out).mono ?_
    rintro e w4 ⟨rfl, hs4, hg4⟩
    go_wp2_with fail
    exact HK.out _ _ (c + 1) (by omega) ⟨rfl, rfl, rfl, rfl, rfl⟩ ⟨s', true, ao, cap, acc, vs, (HO3.out.setTail true).call hg4 hbw.out, hs4, one_trans (one_setCell HG3.out (p := ⟨B, 1, none⟩) (.inr (by simp [HB.out])) (.bool true)) hg4, HR.out, by omega, by omega, by omega⟩




set_option maxHeartbeats 4000000 in
set_option maxRecDepth 1000000 in
theorem pp_dollar {w wr : World} {B b : Nat} {sao : Option Addr} {scap : Nat} {zs : List Int} {top must : Bool} {r : PR} {cs c s' : Nat} {q : Bool} {ao : Option Addr} {cap : Nat} {acc : List Pt} {vs : List Value} {K : Act → World → Prop}
    (hB : w.heap.size = B) (hb : b < B) (hsr : ∀ sb so, sao = some ⟨sb, so, none⟩ → sb < B) (h0 : 0 < zs.length) (hl : zs.length ≤ 4194304) (ih : PIh b sao scap zs cs)
    (ho : PatO wr B B must q ao cap acc vs) (hs : Scan wr b sao scap zs c s') (hg : w.grownBy wr (some b)) (hle : acc.length ≤ c) (hcm : cs ≤ c) (hcb : c ≤ zs.length + 1)
    (hK : ∀ a' w' c', c < c' → PFr b B top a' → PRel w B b sao scap zs top must r cs w' c' → K a' w')
    (hz : chr zs c = 36) (hn : ¬ (top = true ∧ c + 1 = zs.length)) (hr2 : PRun zs top (c + 1) (acc ++ [.one (.el (.chr 36))]) q r) (f : Nat → Value) :
    ppBody.wp Tryf.prog (Exit.then K (PQ w B b sao scap zs top must r)) { tmps := #[.pointer (some ⟨b, 0, none⟩), .bool top, f 2, f 3, f 4, .pointer (some ⟨B, 0, none⟩), f 6, f 7, f 8, f 9, f 10, f 11, f 12, f 13, f 14, f 15, f 16, f 17, f 18, f 19, f 20, f 21, f 22, f 23, f 24, f 25, f 26, f 27, f 28, f 29, f 30, f 31, f 32, f 33, f 34, f 35, f 36, f 37, f 38, f 39, f 40, f 41, f 42, f 43, f 44, f 45, f 46, f 47, f 48, f 49, f 50, f 51, f 52, f 53, f 54, f 55, f 56, f 57, f 58, f 59, f 60, f 61, f 62, f 63, f 64, f 65, f 66, f 67, f 68, f 69, f 70, f 71, f 72, f 73, f 74, f 75, f 76, f 77, f 78, f 79, f 80, f 81, f 82, f 83, f 84, f 85, f 86, f 87, f 88, f 89, f 90, f 91, f 92, f 93, f 94, f 95, f 96, f 97, f 98, f 99, f 100, f 101, f 102, f 103, f 104, f 105, f 106, f 107, f 108, f 109, f 110, f 111, f 112, f 113, f 114, f 115, f 116, f 117, f 118, f 119, f 120, f 121, f 122, f 123, f 124, f 125, f 126, f 127, f 128, f 129, f 130, f 131, f 132, f 133, f 134, f 135, f 136, f 137, f 138, f 139, f 140, f 141, f 142, f 143, f 144, f 145, f 146, f 147, f 148, f 149, f 150, f 151, f 152, f 153, f 154, f 155, f 156, f 157, f 158, f 159, f 160, f 161, f 162, f 163, f 164, f 165, f 166, f 167, f 168, f 169, f 170, f 171, f 172, f 173, f 174, f 175, f 176, f 177, f 178, f 179, f 180, f 181, f 182, f 183, f 184, f 185, f 186, f 187, f 188, f 189, f 190, f 191, f 192, f 193, f 194, f 195, f 196, f 197, f 198, f 199, f 200, f 201, f 202, f 203, f 204, f 205, f 206, f 207, f 208, f 209, f 210, f 211, f 212, f 213, f 214, f 215, f 216, f 217, f 218, f 219, f 220, f 221, f 222, f 223, f 224, f 225, f 226, f 227, f 228, f 229, f 230, f 231, f 232, f 233, f 234, f 235, f 236, f 237, f 238, f 239, f 240, f 241, f 242, f 243, f 244, f 245, f 246, f 247, f 248, f 249, f 250, f 251, f 252, f 253, f 254, f 255, f 256, f 257, f 258, f 259, f 260, f 261, f 262, f 263, f 264, f 265, f 266, f 267, f 268, f 269, f 270, f 271, f 272, f 273, f 274, f 275, f 276, f 277, f 278, f 279, f 280, f 281, f 282, f 283, f 284, f 285, f 286, f 287, f 288, f 289, f 290, f 291, f 292, f 293, f 294, f 295, f 296, f 297, f 298, f 299, f 300, f 301, f 302, f 303, f 304, f 305, f 306, f 307], defers := [] } wr := by
  obtain ⟨i0, hi, hz0, hz1, hz2⟩ := info_parts pattern_info
  have hbw := Lib.hid hb
  have hsrc := Lib.hid hsr
  have HB := Lib.hid hB
  have IH := Lib.hid ih
  have HOr := Lib.hid ho
  have HSr := Lib.hid hs
  have HGr := Lib.hid hg
  have HK := Lib.hid hK
  clear hB hb hsr ih ho hs hg hK
  conv => arg 2; whnf
  have hlt : c < zs.length := chr_lt (by rw [hz]; omega)
  have HZ := Lib.hid hz
  have HR := Lib.hid hr2
  have HN := Lib.hid hn
  clear hz hr2 hn
  cases top with
  | false =>
    go_wp2_with fail
    refine (peek_at HSr.out h0 HZ.out).mono ?_
    rintro e w1 ⟨rfl, hs1, hg1⟩
    have HO1 := Lib.hid (HOr.out.call hg1 hbw.out)
    have HS1 := Lib.hid hs1
    have HG1 := Lib.hid (one_trans HGr.out hg1)
    clear hs1 hg1
    have k1 : w1.cell? ⟨B, 2, none⟩ = some (.slice ao acc.length cap) := blk_cell HO1.out.blk 2 _ rfl
    have f1 : w1.frozen? ⟨B, 2, none⟩ = false := blk_free HO1.out.blk 2
    go_wp2_with (at_builtin; refine wpList_push _ rfl (.tmp 289) (.tmp 297) 74 rfl B 105 i0 .nilIface 1 16 Tryf.underlying74 hi hz0 hz1 hz2 rfl (by decide) _ _ _ _ rfl (((HO1.out.own.alloc _).alloc _).alloc _) ⟨w1.heap.size + 2, 0, none⟩ 1 1 [.iface 95 (.pointer (some ⟨w1.heap.size + 1, 0, none⟩))] rfl rfl (news_at2 (by simp)) (fun u hu => by simp at hu; subst hu; rfl) (by decide) (by unfold maxLen; omega) (by omega) (by have := HO1.out.hm; have := blk_lt HO1.out.blk; simp; omega) ?_; intro g1 c1 w8 hown' hgrow hwhere; have HO' := Lib.hid hown'; have HGw := Lib.hid hgrow; have HWh := Lib.hid hwhere; clear hown' hgrow hwhere; have hb8 := blk_grown (((HO1.out.alloc _).alloc _).alloc _).blk HGw.out (fun e => by have := HO1.out.row _ e.symm; omega); have k8 : w8.cell? ⟨B, 2, none⟩ = some (.slice ao acc.length cap) := blk_cell hb8 2 _ rfl; have f8 : w8.frozen? ⟨B, 2, none⟩ = false := blk_free hb8 2; clear hb8)
    have HAF := Lib.hid (afterIt_mk HB.out hbw.out hsrc.out (((HO1.out.alloc _).alloc _).alloc _) (it_chr w1 36 (xlt HO1.out) _) (((HS1.out.grownAlloc _).grownAlloc _).grownAlloc _) (one_alloc (one_alloc (one_alloc HG1.out _) _) _) HGw.out HO'.out HWh.out)
    obtain ⟨g2, cp2, v2, ho9, hs9, hg9⟩ := HAF.out
    refine (next_at hs9 (by omega) HZ.out).mono ?_
    rintro e w9 ⟨rfl, hs10, hg10⟩
    have HO10 := Lib.hid (ho9.call hg10 hbw.out)
    have HS10 := Lib.hid hs10
    have HG10 := Lib.hid (one_trans hg9 hg10)
    clear ho9 hs9 hg9 hs10 hg10 HAF
    go_wp2_with fail
    exact HK.out _ _ (c + 1) (by omega) ⟨rfl, rfl, rfl, rfl, rfl⟩ ⟨s', q, some ⟨g2, 0, none⟩, cp2, _, vs ++ [v2], HO10.out, HS10.out, HG10.out, HR.out, by simp; omega, by omega, by omega⟩
  | true =>
    have hnp : nposOf zs.length c = (c : Int) := by unfold nposOf; rw [if_pos]; exact ⟨hlt, fun h => HN.out ⟨rfl, by omega⟩⟩
    have t1 : ((c : Int) == (zs.length : Int) - 1) = false := by rw [beq_eq_false_iff_ne]; intro h; exact HN.out ⟨rfl, by omega⟩
    have t2 : ((c : Int) == -1) = false := by rw [beq_eq_false_iff_ne]; omega
    have HM1 : Hid (nposOf zs.length c = (c : Int)) := Lib.hid hnp
    clear hnp
    go_wp2_with fail
    refine (peek_at HSr.out h0 HZ.out).mono ?_
    rintro e w1 ⟨rfl, hs1, hg1⟩
    have HO1 := Lib.hid (HOr.out.call hg1 hbw.out)
    have HS1 := Lib.hid hs1
    have HG1 := Lib.hid (one_trans HGr.out hg1)
    clear hs1 hg1
    go_wp2_with fail
    refine (npos_is HS1.out HM1).mono ?_
    rintro e w2 ⟨rfl, hs2, hg2⟩
    have HO2 := Lib.hid (HO1.out.call hg2 hbw.out)
    have HS2 := Lib.hid hs2
    have HG2 := Lib.hid (one_trans HG1.out hg2)
    clear hs2 hg2
    go_wp2_with fail
    refine (len_any HS2.out).mono ?_
    rintro e w' ⟨rfl, rfl⟩
    go_wp2_with fail
    refine (npos_is HS2.out HM1).mono ?_
    rintro e w3 ⟨rfl, hs3, hg3⟩
    have HO3 := Lib.hid (HO2.out.call hg3 hbw.out)
    have HS3 := Lib.hid hs3
    have HG3 := Lib.hid (one_trans HG2.out hg3)
    clear hs3 hg3
    have k3 : w3.cell? ⟨B, 2, none⟩ = some (.slice ao acc.length cap) := blk_cell HO3.out.blk 2 _ rfl
    have f3 : w3.frozen? ⟨B, 2, none⟩ = false := blk_free HO3.out.blk 2
    go_wp2_with (at_builtin; refine wpList_push _ rfl (.tmp 289) (.tmp 297) 74 rfl B 105 i0 .nilIface 1 16 Tryf.underlying74 hi hz0 hz1 hz2 rfl (by decide) _ _ _ _ rfl (((HO3.out.own.alloc _).alloc _).alloc _) ⟨w3.heap.size + 2, 0, none⟩ 1 1 [.iface 95 (.pointer (some ⟨w3.heap.size + 1, 0, none⟩))] rfl rfl (news_at2 (by simp)) (fun u hu => by simp at hu; subst hu; rfl) (by decide) (by unfold maxLen; omega) (by omega) (by have := HO3.out.hm; have := blk_lt HO3.out.blk; simp; omega) ?_; intro g1 c1 w8 hown' hgrow hwhere; have HO' := Lib.hid hown'; have HGw := Lib.hid hgrow; have HWh := Lib.hid hwhere; clear hown' hgrow hwhere; have hb8 := blk_grown (((HO3.out.alloc _).alloc _).alloc _).blk HGw.out (fun e => by have := HO3.out.row _ e.symm; omega); have k8 : w8.cell? ⟨B, 2, none⟩ = some (.slice ao acc.length cap) := blk_cell hb8 2 _ rfl; have f8 : w8.frozen? ⟨B, 2, none⟩ = false := blk_free hb8 2; clear hb8)
    have HAF := Lib.hid (afterIt_mk HB.out hbw.out hsrc.out (((HO3.out.alloc _).alloc _).alloc _) (it_chr w3 36 (xlt HO3.out) _) (((HS3.out.grownAlloc _).grownAlloc _).grownAlloc _) (one_alloc (one_alloc (one_alloc HG3.out _) _) _) HGw.out HO'.out HWh.out)
    obtain ⟨g2, cp2, v2, ho9, hs9, hg9⟩ := HAF.out
    refine (next_at hs9 (by omega) HZ.out).mono ?_
    rintro e w9 ⟨rfl, hs10, hg10⟩
    have HO10 := Lib.hid (ho9.call hg10 hbw.out)
    have HS10 := Lib.hid hs10
    have HG10 := Lib.hid (one_trans hg9 hg10)
    clear ho9 hs9 hg9 hs10 hg10 HAF
    go_wp2_with fail
    exact HK.out _ _ (c + 1) (by omega) ⟨rfl, rfl, rfl, rfl, rfl⟩ ⟨s', q, some ⟨g2, 0, none⟩, cp2, _, vs ++ [v2], HO10.out, HS10.out, HG10.out, HR.out, by simp; omega, by omega, by omega⟩




set_option maxHeartbeats 4000000 in
set_option maxRecDepth 1000000 in
theorem pp_esc {w wr : World} {B b : Nat} {sao : Option Addr} {scap : Nat} {zs : List Int} {top must : Bool} {r : PR} {cs c s' : Nat} {q : Bool} {ao : Option Addr} {cap : Nat} {acc : List Pt} {vs : List Value} {K : Act → World → Prop}
    (hB : w.heap.size = B) (hb : b < B) (hsr : ∀ sb so, sao = some ⟨sb, so, none⟩ → sb < B) (h0 : 0 < zs.length) (hl : zs.length ≤ 4194304) (ih : PIh b sao scap zs cs)
    (ho : PatO wr B B must q ao cap acc vs) (hs : Scan wr b sao scap zs c s') (hg : w.grownBy wr (some b)) (hle : acc.length ≤ c) (hcm : cs ≤ c) (hcb : c ≤ zs.length + 1)
    (hK : ∀ a' w' c', c < c' → PFr b B top a' → PRel w B b sao scap zs top must r cs w' c' → K a' w')
    (hz : chr zs c = 37) (h48 : ¬ (48 ≤ chr zs (c + 1) ∧ chr zs (c + 1) ≤ 57)) (h98 : chr zs (c + 1) ≠ 98) (hr2 : PRun zs top (c + 2) (acc ++ [.one (.el (.sgl (chr zs (c + 1))))]) q r) (f : Nat → Value) :
    ppBody.wp Tryf.prog (Exit.then K (PQ w B b sao scap zs top must r)) { tmps := #[.pointer (some ⟨b, 0, none⟩), .bool top, f 2, f 3, f 4, .pointer (some ⟨B, 0, none⟩), f 6, f 7, f 8, f 9, f 10, f 11, f 12, f 13, f 14, f 15, f 16, f 17, f 18, f 19, f 20, f 21, f 22, f 23, f 24, f 25, f 26, f 27, f 28, f 29, f 30, f 31, f 32, f 33, f 34, f 35, f 36, f 37, f 38, f 39, f 40, f 41, f 42, f 43, f 44, f 45, f 46, f 47, f 48, f 49, f 50, f 51, f 52, f 53, f 54, f 55, f 56, f 57, f 58, f 59, f 60, f 61, f 62, f 63, f 64, f 65, f 66, f 67, f 68, f 69, f 70, f 71, f 72, f 73, f 74, f 75, f 76, f 77, f 78, f 79, f 80, f 81, f 82, f 83, f 84, f 85, f 86, f 87, f 88, f 89, f 90, f 91, f 92, f 93, f 94, f 95, f 96, f 97, f 98, f 99, f 100, f 101, f 102, f 103, f 104, f 105, f 106, f 107, f 108, f 109, f 110, f 111, f 112, f 113, f 114, f 115, f 116, f 117, f 118, f 119, f 120, f 121, f 122, f 123, f 124, f 125, f 126, f 127, f 128, f 129, f 130, f 131, f 132, f 133, f 134, f 135, f 136, f 137, f 138, f 139, f 140, f 141, f 142, f 143, f 144, f 145, f 146, f 147, f 148, f 149, f 150, f 151, f 152, f 153, f 154, f 155, f 156, f 157, f 158, f 159, f 160, f 161, f 162, f 163, f 164, f 165, f 166, f 167, f 168, f 169, f 170, f 171, f 172, f 173, f 174, f 175, f 176, f 177, f 178, f 179, f 180, f 181, f 182, f 183, f 184, f 185, f 186, f 187, f 188, f 189, f 190, f 191, f 192, f 193, f 194, f 195, f 196, f 197, f 198, f 199, f 200, f 201, f 202, f 203, f 204, f 205, f 206, f 207, f 208, f 209, f 210, f 211, f 212, f 213, f 214, f 215, f 216, f 217, f 218, f 219, f 220, f 221, f 222, f 223, f 224, f 225, f 226, f 227, f 228, f 229, f 230, f 231, f 232, f 233, f 234, f 235, f 236, f 237, f 238, f 239, f 240, f 241, f 242, f 243, f 244, f 245, f 246, f 247, f 248, f 249, f 250, f 251, f 252, f 253, f 254, f 255, f 256, f 257, f 258, f 259, f 260, f 261, f 262, f 263, f 264, f 265, f 266, f 267, f 268, f 269, f 270, f 271, f 272, f 273, f 274, f 275, f 276, f 277, f 278, f 279, f 280, f 281, f 282, f 283, f 284, f 285, f 286, f 287, f 288, f 289, f 290, f 291, f 292, f 293, f 294, f 295, f 296, f 297, f 298, f 299, f 300, f 301, f 302, f 303, f 304, f 305, f 306, f 307], defers := [] } wr := by
  obtain ⟨i0, hi, hz0, hz1, hz2⟩ := info_parts pattern_info
  have hbw := Lib.hid hb
  have hsrc := Lib.hid hsr
  have HB := Lib.hid hB
  have IH := Lib.hid ih
  have HOr := Lib.hid ho
  have HSr := Lib.hid hs
  have HGr := Lib.hid hg
  have HK := Lib.hid hK
  clear hB hb hsr ih ho hs hg hK
  conv => arg 2; whnf
  have hlt : c < zs.length := chr_lt (by rw [hz]; omega)
  obtain ⟨y, hy⟩ : ∃ y, chr zs (c + 1) = y := ⟨_, rfl⟩
  rw [hy] at h48 h98 hr2
  have HZ := Lib.hid hz
  have HY := Lib.hid hy
  have HR := Lib.hid hr2
  have hpc : parseCls zs c = some (.el (.sgl y), c + 2) := by unfold parseCls; rw [if_neg (by omega), if_pos hz, hy]
  have HPC := Lib.hid hpc
  have y0 : (y == 48) = false := by simp; omega
  have y1 : (y == 49) = false := by simp; omega
  have y2 : (y == 50) = false := by simp; omega
  have y3 : (y == 51) = false := by simp; omega
  have y4 : (y == 52) = false := by simp; omega
  have y5 : (y == 53) = false := by simp; omega
  have y6 : (y == 54) = false := by simp; omega
  have y7 : (y == 55) = false := by simp; omega
  have y8 : (y == 56) = false := by simp; omega
  have y9 : (y == 57) = false := by simp; omega
  have y10 : (y == 98) = false := by simp; omega
  clear hz hy hr2 h48 h98 hpc
  go_wp2_with fail
  refine (peek_at HSr.out h0 HZ.out).mono ?_
  rintro e w1 ⟨rfl, hs1, hg1⟩
  have HO1 := Lib.hid (HOr.out.call hg1 hbw.out)
  have HS1 := Lib.hid hs1
  have HG1 := Lib.hid (one_trans HGr.out hg1)
  clear hs1 hg1
  go_wp2_with fail
  refine (save_any HS1.out).mono ?_
  rintro e w2 ⟨rfl, hs2, hg2⟩
  have HO2 := Lib.hid (HO1.out.call hg2 hbw.out)
  have HS2 := Lib.hid hs2
  have HG2 := Lib.hid (one_trans HG1.out hg2)
  clear hs2 hg2
  go_wp2_with fail
  refine (next_at HS2.out (by omega) HZ.out).mono ?_
  rintro e w3 ⟨rfl, hs3, hg3⟩
  have HO3 := Lib.hid (HO2.out.call hg3 hbw.out)
  have HS3 := Lib.hid hs3
  have HG3 := Lib.hid (one_trans HG2.out hg3)
  clear hs3 hg3
  go_wp2_with fail
  refine (peek_at HS3.out h0 HY.out).mono ?_
  rintro e w4 ⟨rfl, hs4, hg4⟩
  have HO4 := Lib.hid (HO3.out.call hg4 hbw.out)
  have HS4 := Lib.hid hs4
  have HG4 := Lib.hid (one_trans HG3.out hg4)
  clear hs4 hg4
  go_wp2_with fail
  refine (restore_any HS4.out).mono ?_
  rintro e w5 ⟨rfl, hs5, hg5⟩
  have HO5 := Lib.hid (HO4.out.call hg5 hbw.out)
  have HS5 := Lib.hid hs5
  have HG5 := Lib.hid (one_trans HG4.out hg5)
  clear hs5 hg5
  have k5 : w5.cell? ⟨B, 2, none⟩ = some (.slice ao acc.length cap) := blk_cell HO5.out.blk 2 _ rfl
  have f5 : w5.frozen? ⟨B, 2, none⟩ = false := blk_free HO5.out.blk 2
  go_wp2_with fail
  have HSd := Lib.hid HS5.out.drew'
  go_region_law ((first | (refine step_append_lies _ (by rfl) _ _ _ (by rfl) B 105 i0 _ 1 16 Tryf.underlying74 hi hz0 hz1 hz2 rfl (by omega) (.slice ao acc.length cap) acc.length vs (by rfl) ((HO9.out.own.alloc _).alloc _) ⟨w9.heap.size + 1, 0, none⟩ 1 1 [.iface 95 (.pointer (some ⟨w9.heap.size, 0, none⟩))] (by rfl) (by rfl) (news_at2 (by simp)) (by simp [Value.oneCell']) (by omega) (by unfold maxLen; omega) (by omega) (by have := HO9.out.hm; have := blk_lt HO9.out.blk; simp; omega) (w9.heap.size + 2) (by simp) ?_; intro g1 c1 w8 hown hgrow hat hlt8; have HO' := Lib.hid hown; have HGw := Lib.hid hgrow; have HAt := Lib.hid hat; clear hown hgrow hat hlt8; have hb8 := blk_grown ((HO9.out.alloc _).alloc _).blk HGw.out (fun e => by have := HO9.out.row _ (by rw [ownBlock_slice] at e; exact e.symm); omega); have k8 : w8.cell? ⟨B, 2, none⟩ = some (.slice ao acc.length cap) := blk_cell hb8 2 _ rfl; have f8 : w8.frozen? ⟨B, 2, none⟩ = false := blk_free hb8 2; clear hb8) | (go_simp; go_at_call 30; refine (parseCls_any HSd.out hl HPC.out).mono ?_; rintro e w9 ⟨T, pa, rfl, h1, h2, h3⟩; have HE := Lib.hid h1; have HS9 := Lib.hid h2; have HG9 := Lib.hid (one_trans (one_drew HG5.out) h3); have HO9 := Lib.hid (PatO.call (w := w5.drew) (HO5.out.drewN 1) h3 hbw.out); have HL9 := Lib.hid h3.size; clear h1 h2 h3; have k9 : w9.cell? ⟨B, 2, none⟩ = some (.slice ao acc.length cap) := blk_cell HO9.out.blk 2 _ rfl; have n9 : ∀ o, (w9.alloc o).cell? ⟨B, 2, none⟩ = some (.slice ao acc.length cap) := fun o => blk_cell (blk_alloc HO9.out.blk o) 2 _ rfl; have m9 : ∀ o o', ((w9.alloc o).alloc o').cell? ⟨B, 2, none⟩ = some (.slice ao acc.length cap) := fun o o' => blk_cell (blk_alloc (blk_alloc HO9.out.blk o) o') 2 _ rfl)))
  all_goals
    go_wp2_with fail
    have HAF := Lib.hid (afterIt_mk' HB.out hbw.out hsrc.out ((HO9.out.alloc _).alloc _) (it_one w9 (xle HO5.out HL9.out) HE.out _) ((HS9.out.grownAlloc _).grownAlloc _) (one_alloc (one_alloc HG9.out _) _) HGw.out HO'.out HAt.out)
    obtain ⟨g2, cp2, v2, ho, hs, hg⟩ := HAF.out
    exact HK.out _ _ (c + 2) (by omega) ⟨rfl, rfl, rfl, rfl, rfl⟩ ⟨c, q, some ⟨g2, 0, none⟩, cp2, _, vs ++ [v2], ho, hs, hg, HR.out, by simp; omega, by omega, by omega⟩



end Go.Proofs.YtcfhhcjcnafcjaaFmt
