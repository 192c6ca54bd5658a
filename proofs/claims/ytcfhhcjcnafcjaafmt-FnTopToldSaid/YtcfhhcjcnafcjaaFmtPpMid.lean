/-
  Rounds of parsePattern: a back-reference, a balanced match. Conditions as each statement says.
-/
import Derived.Test.YtcfhhcjcnafcjaaFmtPatAll
namespace Go.Proofs.YtcfhhcjcnafcjaaFmt
open Go.RowKit
set_option linter.unusedVariables false
set_option linter.unusedSimpArgs false


set_option maxHeartbeats 4000000 in
set_option maxRecDepth 1000000 in
theorem pp_num {w wr : World} {B b : Nat} {sao : Option Addr} {scap : Nat} {zs : List Int} {top must : Bool} {r : PR} {cs c s' : Nat} {q : Bool} {ao : Option Addr} {cap : Nat} {acc : List Pt} {vs : List Value} {K : Act → World → Prop}
    (hB : w.heap.size = B) (hb : b < B) (hsr : ∀ sb so, sao = some ⟨sb, so, none⟩ → sb < B) (h0 : 0 < zs.length) (hl : zs.length ≤ 4194304) (ih : PIh b sao scap zs cs)
    (ho : PatO wr B B must q ao cap acc vs) (hs : Scan wr b sao scap zs c s') (hg : w.grownBy wr (some b)) (hle : acc.length ≤ c) (hcm : cs ≤ c) (hcb : c ≤ zs.length + 1)
    (hK : ∀ a' w' c', c < c' → PFr b B top a' → PRel w B b sao scap zs top must r cs w' c' → K a' w')
    (hz : chr zs c = 37) (h49 : 49 ≤ chr zs (c + 1)) (h57 : chr zs (c + 1) ≤ 57) (hr2 : PRun zs top (c + 2) (acc ++ [.num (chr zs (c + 1) - 48)]) q r) (f : Nat → Value) :
    ppBody.wp Tryf.prog (Exit.then K (PQ w B b sao scap zs top must r)) { tmps := #[.pointer (some ⟨b, 0, none⟩), .bool top, f 2, f 3, f 4, .pointer (some ⟨B, 0, none⟩), f 6, f 7, f 8, f 9, f 10, f 11, f 12, f 13, f 14, f 15, f 16, f 17, f 18, f 19, f 20, f 21, f 22, f 23, f 24, f 25, f 26, f 27, f 28, f 29, f 30, f 31, f 32, f 33, f 34, f 35, f 36, f 37, f 38, f 39, f 40, f 41, f 42, f 43, f 44, f 45, f 46, f 47, f 48, f 49, f 50, f 51, f 52, f 53, f 54, f 55, f 56, f 57, f 58, f 59, f 60, f 61, f 62, f 63, f 64, f 65, f 66, f 67, f 68, f 69, f 70, f 71, f 72, f 73, f 74, f 75, f 76, f 77, f 78, f 79, f 80, f 81, f 82, f 83, f 84, f 85, f 86, f 87, f 88, f 89, f 90, f 91, f 92, f 93, f 94, f 95, f 96, f 97, f 98, f 99, f 100, f 101, f 102, f 103, f 104, f 105, f 106, f 107, f 108, f 109, f 110, f 111, f 112, f 113, f 114, f 115, f 116, f 117, f 118, f 119, f 120, f 121, f 122, f 123, f 124, f 125, f 126, f 127, f 128, f 129, f 130, f 131, f 132, f 133, f 134, f 135, f 136, f 137, f 138, f 139, f 140, f 141, f 142, f 143, f 144, f 145, f 146, f 147, f 148, f 149, f 150, f 151, f 152, f 153, f 154, f 155, f 156, f 157, f 158, f 159, f 160, f 161, f 162, f 163, f 164, f 165, f 166, f 167, f 168, f 169, f 170, f 171, f 172, f 173, f 174, f 175, f 176, f 177, f 178, f 179, f 180, f 181, f 182, f 183, f 184, f 185, f 186, f 187, f 188, f 189, f 190, f 191, f 192, f 193, f 194, f 195, f 196, f 197, f 198, f 199, f 200, f 201, f 202, f 203, f 204, f 205, f 206, f 207, f 208, f 209, f 210, f 211, f 212, f 213, f 214, f 215, f 216, f 217, f 218, f 219, f 220, f 221, f 222, f 223, f 224, f 225, f 226, f 227, f 228, f 229, f 230, f 231, f 232, f 233, f 234, f 235, f 236, f 237, f 238, f 239, f 240, f 241, f 242, f 243, f 244, f 245, f 246, f 247, f 248, f 249, f 250, f 251, f 252, f 253, f 254, f 255, f 256, f 257, f 258, f 259, f 260, f 261, f 262, f 263, f 264, f 265, f 266, f 267, f 268, f 269, f 270, f 271, f 272, f 273, f 274, f 275, f 276, f 277, f 278, f 279, f 280, f 281, f 282, f 283, f 284, f 285, f 286, f 287, f 288, f 289, f 290, f 291, f 292, f 293, f 294, f 295, f 296, f 297, f 298, f 299, f 300, f 301, f 302, f 303, f 304, f 305, f 306, f 307], defers := [] } wr := by
  obtain ⟨i0, hi, hz0, hz1, hz2⟩ := info_parts pattern_info
  have hbw := Lib.hid hb
  have hsrc := Lib.hid hsr
  have HB := Lib.hid hB
  have IH := Lib.hid ih
  have HOr := Lib.hid ho
  have HSr := Lib.hid hs
  have HGr := Lib.hid hg
  have HK := Lib.hid hK
  clear hB hb hsr ih ho hs hg hK
  conv => arg 2; whnf
  have hlt : c < zs.length := chr_lt (by rw [hz]; omega)
  obtain ⟨y, hy⟩ : ∃ y, chr zs (c + 1) = y := ⟨_, rfl⟩
  rw [hy] at h49 h57 hr2
  have hlt2 : c + 1 < zs.length := chr_lt (by rw [hy]; omega)
  have HZ := Lib.hid hz
  have HY := Lib.hid hy
  have HR := Lib.hid hr2
  clear hz hy hr2
  go_wp2_with fail
  refine (peek_at HSr.out h0 HZ.out).mono ?_
  rintro e w1 ⟨rfl, hs1, hg1⟩
  have HO1 := Lib.hid (HOr.out.call hg1 hbw.out)
  have HS1 := Lib.hid hs1
  have HG1 := Lib.hid (one_trans HGr.out hg1)
  clear hs1 hg1
  go_wp2_with fail
  refine (save_any HS1.out).mono ?_
  rintro e w2 ⟨rfl, hs2, hg2⟩
  have HO2 := Lib.hid (HO1.out.call hg2 hbw.out)
  have HS2 := Lib.hid hs2
  have HG2 := Lib.hid (one_trans HG1.out hg2)
  clear hs2 hg2
  go_wp2_with fail
  refine (next_at HS2.out (by omega) HZ.out).mono ?_
  rintro e w3 ⟨rfl, hs3, hg3⟩
  have HO3 := Lib.hid (HO2.out.call hg3 hbw.out)
  have HS3 := Lib.hid hs3
  have HG3 := Lib.hid (one_trans HG2.out hg3)
  clear hs3 hg3
  go_wp2_with fail
  refine (peek_at HS3.out h0 HY.out).mono ?_
  rintro e w4 ⟨rfl, hs4, hg4⟩
  have HO4 := Lib.hid (HO3.out.call hg4 hbw.out)
  have HS4 := Lib.hid hs4
  have HG4 := Lib.hid (one_trans HG3.out hg4)
  clear hs4 hg4
  have k4 : w4.cell? ⟨B, 2, none⟩ = some (.slice ao acc.length cap) := blk_cell HO4.out.blk 2 _ rfl
  have f4 : w4.frozen? ⟨B, 2, none⟩ = false := blk_free HO4.out.blk 2
  have HY2 : Hid (y = 49 ∨ y = 50 ∨ y = 51 ∨ y = 52 ∨ y = 53 ∨ y = 54 ∨ y = 55 ∨ y = 56 ∨ y = 57) := Lib.hid (by omega)
  clear h49 h57
  have HY3 := Lib.hid HY.out
  rcases HY2.out with rfl | rfl | rfl | rfl | rfl | rfl | rfl | rfl | rfl
  all_goals
    go_wp2_with fail
    have HSd := Lib.hid HS4.out.drew'
    go_region_law ((first | (refine step_append_lies _ (by rfl) _ _ _ (by rfl) B 105 i0 _ 1 16 Tryf.underlying74 hi hz0 hz1 hz2 rfl (by omega) (.slice ao acc.length cap) acc.length vs (by rfl) ((HO9.out.own.alloc _).alloc _) ⟨w9.heap.size + 1, 0, none⟩ 1 1 [.iface 89 (.pointer (some ⟨w9.heap.size, 0, none⟩))] (by rfl) (by rfl) (news_at2 (by simp)) (by simp [Value.oneCell']) (by omega) (by unfold maxLen; omega) (by omega) (by have := HO9.out.hm; have := blk_lt HO9.out.blk; simp; omega) (w9.heap.size + 2) (by simp) ?_; intro g1 c1 w8 hown hgrow hat hlt8; have HO' := Lib.hid hown; have HGw := Lib.hid hgrow; have HAt := Lib.hid hat; clear hown hgrow hat hlt8; have hb8 := blk_grown ((HO9.out.alloc _).alloc _).blk HGw.out (fun e => by have := HO9.out.row _ (by rw [ownBlock_slice] at e; exact e.symm); omega); have k8 : w8.cell? ⟨B, 2, none⟩ = some (.slice ao acc.length cap) := blk_cell hb8 2 _ rfl; have f8 : w8.frozen? ⟨B, 2, none⟩ = false := blk_free hb8 2; clear hb8) | (go_simp; go_at_call 25; refine (next_at HSd.out (by omega) HY.out).mono ?_; rintro e w9 ⟨rfl, h2, h3⟩; have HS9 := Lib.hid h2; have HG9 := Lib.hid (one_trans (one_drew HG4.out) h3); have HO9 := Lib.hid (PatO.call (w := w4.drew) (HO4.out.drewN 1) h3 hbw.out); clear h2 h3; have k9 : w9.cell? ⟨B, 2, none⟩ = some (.slice ao acc.length cap) := blk_cell HO9.out.blk 2 _ rfl; have n9 : ∀ o, (w9.alloc o).cell? ⟨B, 2, none⟩ = some (.slice ao acc.length cap) := fun o => blk_cell (blk_alloc HO9.out.blk o) 2 _ rfl; have m9 : ∀ o o', ((w9.alloc o).alloc o').cell? ⟨B, 2, none⟩ = some (.slice ao acc.length cap) := fun o o' => blk_cell (blk_alloc (blk_alloc HO9.out.blk o) o') 2 _ rfl)))
    all_goals
      go_wp2_with fail
      have HAF := Lib.hid (afterIt_mk' HB.out hbw.out hsrc.out ((HO9.out.alloc _).alloc _) (it_num w9 _ (xlt HO9.out) _) ((HS9.out.grownAlloc _).grownAlloc _) (one_alloc (one_alloc HG9.out _) _) HGw.out HO'.out HAt.out)
      obtain ⟨g2, cp2, v2, ho, hs, hg⟩ := HAF.out
      exact HK.out _ _ (c + 2) (by omega) ⟨rfl, rfl, rfl, rfl, rfl⟩ ⟨c, q, some ⟨g2, 0, none⟩, cp2, _, vs ++ [v2], ho, hs, hg, HR.out, by simp; omega, by omega, by omega⟩




set_option maxHeartbeats 4000000 in
set_option maxRecDepth 1000000 in
theorem pp_brace {w wr : World} {B b : Nat} {sao : Option Addr} {scap : Nat} {zs : List Int} {top must : Bool} {r : PR} {cs c s' : Nat} {q : Bool} {ao : Option Addr} {cap : Nat} {acc : List Pt} {vs : List Value} {K : Act → World → Prop}
    (hB : w.heap.size = B) (hb : b < B) (hsr : ∀ sb so, sao = some ⟨sb, so, none⟩ → sb < B) (h0 : 0 < zs.length) (hl : zs.length ≤ 4194304) (ih : PIh b sao scap zs cs)
    (ho : PatO wr B B must q ao cap acc vs) (hs : Scan wr b sao scap zs c s') (hg : w.grownBy wr (some b)) (hle : acc.length ≤ c) (hcm : cs ≤ c) (hcb : c ≤ zs.length + 1)
    (hK : ∀ a' w' c', c < c' → PFr b B top a' → PRel w B b sao scap zs top must r cs w' c' → K a' w')
    (hz : chr zs c = 37) (h98 : chr zs (c + 1) = 98) (hr2 : PRun zs top (min (c + 4) (zs.length + 1)) (acc ++ [.brace (chr zs (c + 2)) (chr zs (c + 3))]) q r) (f : Nat → Value) :
    ppBody.wp Tryf.prog (Exit.then K (PQ w B b sao scap zs top must r)) { tmps := #[.pointer (some ⟨b, 0, none⟩), .bool top, f 2, f 3, f 4, .pointer (some ⟨B, 0, none⟩), f 6, f 7, f 8, f 9, f 10, f 11, f 12, f 13, f 14, f 15, f 16, f 17, f 18, f 19, f 20, f 21, f 22, f 23, f 24, f 25, f 26, f 27, f 28, f 29, f 30, f 31, f 32, f 33, f 34, f 35, f 36, f 37, f 38, f 39, f 40, f 41, f 42, f 43, f 44, f 45, f 46, f 47, f 48, f 49, f 50, f 51, f 52, f 53, f 54, f 55, f 56, f 57, f 58, f 59, f 60, f 61, f 62, f 63, f 64, f 65, f 66, f 67, f 68, f 69, f 70, f 71, f 72, f 73, f 74, f 75, f 76, f 77, f 78, f 79, f 80, f 81, f 82, f 83, f 84, f 85, f 86, f 87, f 88, f 89, f 90, f 91, f 92, f 93, f 94, f 95, f 96, f 97, f 98, f 99, f 100, f 101, f 102, f 103, f 104, f 105, f 106, f 107, f 108, f 109, f 110, f 111, f 112, f 113, f 114, f 115, f 116, f 117, f 118, f 119, f 120, f 121, f 122, f 123, f 124, f 125, f 126, f 127, f 128, f 129, f 130, f 131, f 132, f 133, f 134, f 135, f 136, f 137, f 138, f 139, f 140, f 141, f 142, f 143, f 144, f 145, f 146, f 147, f 148, f 149, f 150, f 151, f 152, f 153, f 154, f 155, f 156, f 157, f 158, f 159, f 160, f 161, f 162, f 163, f 164, f 165, f 166, f 167, f 168, f 169, f 170, f 171, f 172, f 173, f 174, f 175, f 176, f 177, f 178, f 179, f 180, f 181, f 182, f 183, f 184, f 185, f 186, f 187, f 188, f 189, f 190, f 191, f 192, f 193, f 194, f 195, f 196, f 197, f 198, f 199, f 200, f 201, f 202, f 203, f 204, f 205, f 206, f 207, f 208, f 209, f 210, f 211, f 212, f 213, f 214, f 215, f 216, f 217, f 218, f 219, f 220, f 221, f 222, f 223, f 224, f 225, f 226, f 227, f 228, f 229, f 230, f 231, f 232, f 233, f 234, f 235, f 236, f 237, f 238, f 239, f 240, f 241, f 242, f 243, f 244, f 245, f 246, f 247, f 248, f 249, f 250, f 251, f 252, f 253, f 254, f 255, f 256, f 257, f 258, f 259, f 260, f 261, f 262, f 263, f 264, f 265, f 266, f 267, f 268, f 269, f 270, f 271, f 272, f 273, f 274, f 275, f 276, f 277, f 278, f 279, f 280, f 281, f 282, f 283, f 284, f 285, f 286, f 287, f 288, f 289, f 290, f 291, f 292, f 293, f 294, f 295, f 296, f 297, f 298, f 299, f 300, f 301, f 302, f 303, f 304, f 305, f 306, f 307], defers := [] } wr := by
  obtain ⟨i0, hi, hz0, hz1, hz2⟩ := info_parts pattern_info
  have hbw := Lib.hid hb
  have hsrc := Lib.hid hsr
  have HB := Lib.hid hB
  have IH := Lib.hid ih
  have HOr := Lib.hid ho
  have HSr := Lib.hid hs
  have HGr := Lib.hid hg
  have HK := Lib.hid hK
  clear hB hb hsr ih ho hs hg hK
  conv => arg 2; whnf
  have hlt : c < zs.length := chr_lt (by rw [hz]; omega)
  have hlt2 : c + 1 < zs.length := chr_lt (by rw [h98]; omega)
  have HZ := Lib.hid hz
  have HY := Lib.hid h98
  obtain ⟨y1, hy1⟩ : ∃ y, chr zs (c + 2) = y := ⟨_, rfl⟩
  obtain ⟨y2, hy2⟩ : ∃ y, chr zs (c + 3) = y := ⟨_, rfl⟩
  rw [hy1, hy2] at hr2
  have HY1 := Lib.hid hy1
  have hy2' : chr zs (min (c + 2 + 1) (zs.length + 1)) = y2 := by rw [← hy2]; exact chr_min _ _ (by omega)
  have HY2 := Lib.hid hy2'
  have HR := Lib.hid hr2
  clear hz h98 hy1 hy2 hy2' hr2
  go_wp2_with fail
  refine (peek_at HSr.out h0 HZ.out).mono ?_
  rintro e w1 ⟨rfl, hs1, hg1⟩
  have HO1 := Lib.hid (HOr.out.call hg1 hbw.out)
  have HS1 := Lib.hid hs1
  have HG1 := Lib.hid (one_trans HGr.out hg1)
  clear hs1 hg1
  go_wp2_with fail
  refine (save_any HS1.out).mono ?_
  rintro e w2 ⟨rfl, hs2, hg2⟩
  have HO2 := Lib.hid (HO1.out.call hg2 hbw.out)
  have HS2 := Lib.hid hs2
  have HG2 := Lib.hid (one_trans HG1.out hg2)
  clear hs2 hg2
  go_wp2_with fail
  refine (next_at HS2.out (by omega) HZ.out).mono ?_
  rintro e w3 ⟨rfl, hs3, hg3⟩
  have HO3 := Lib.hid (HO2.out.call hg3 hbw.out)
  have HS3 := Lib.hid hs3
  have HG3 := Lib.hid (one_trans HG2.out hg3)
  clear hs3 hg3
  go_wp2_with fail
  refine (peek_at HS3.out h0 HY.out).mono ?_
  rintro e w4 ⟨rfl, hs4, hg4⟩
  have HO4 := Lib.hid (HO3.out.call hg4 hbw.out)
  have HS4 := Lib.hid hs4
  have HG4 := Lib.hid (one_trans HG3.out hg4)
  clear hs4 hg4
  go_wp2_with fail
  refine (next_at HS4.out (by omega) HY.out).mono ?_
  rintro e w5 ⟨rfl, hs5, hg5⟩
  have HO5 := Lib.hid (HO4.out.call hg5 hbw.out)
  have HS5 := Lib.hid hs5
  have HG5 := Lib.hid (one_trans HG4.out hg5)
  clear hs5 hg5
  have k5 : w5.cell? ⟨B, 2, none⟩ = some (.slice ao acc.length cap) := blk_cell HO5.out.blk 2 _ rfl
  have f5 : w5.frozen? ⟨B, 2, none⟩ = false := blk_free HO5.out.blk 2
  go_wp2_with fail
  have HSd := Lib.hid HS5.out.drew'
  go_region_law ((first | (refine step_append_lies _ (by rfl) _ _ _ (by rfl) B 105 i0 _ 1 16 Tryf.underlying74 hi hz0 hz1 hz2 rfl (by omega) (.slice ao acc.length cap) acc.length vs (by rfl) ((HO9.out.own.alloc _).alloc _) ⟨w9.heap.size + 1, 0, none⟩ 1 1 [.iface 92 (.pointer (some ⟨w9.heap.size, 0, none⟩))] (by rfl) (by rfl) (news_at2 (by simp)) (by simp [Value.oneCell']) (by omega) (by unfold maxLen; omega) (by omega) (by have := HO9.out.hm; have := blk_lt HO9.out.blk; simp; omega) (w9.heap.size + 2) (by simp) ?_; intro g1 c1 w8 hown hgrow hat hlt8; have HO' := Lib.hid hown; have HGw := Lib.hid hgrow; have HAt := Lib.hid hat; clear hown hgrow hat hlt8; have hb8 := blk_grown ((HO9.out.alloc _).alloc _).blk HGw.out (fun e => by have := HO9.out.row _ (by rw [ownBlock_slice] at e; exact e.symm); omega); have k8 : w8.cell? ⟨B, 2, none⟩ = some (.slice ao acc.length cap) := blk_cell hb8 2 _ rfl; have f8 : w8.frozen? ⟨B, 2, none⟩ = false := blk_free hb8 2; clear hb8) | (go_simp; go_at_call 25; refine (next_is HSd.out HY1.out rfl).mono ?_; rintro e w6 ⟨rfl, h2, h3⟩; have HS6 := Lib.hid h2; have HG6 := Lib.hid (one_trans (one_drew HG5.out) h3); have HO6 := Lib.hid (PatO.call (w := w5.drew) (HO5.out.drewN 1) h3 hbw.out); clear h2 h3; have k6 : w6.cell? ⟨B, 2, none⟩ = some (.slice ao acc.length cap) := blk_cell HO6.out.blk 2 _ rfl) | (go_simp; go_at_call 25; refine (next_is (c' := min (c + 4) (zs.length + 1)) HS6.out HY2.out (by omega)).mono ?_; rintro e w9 ⟨rfl, h2, h3⟩; have HS9 := Lib.hid h2; have HG9 := Lib.hid (one_trans HG6.out h3); have HO9 := Lib.hid (PatO.call HO6.out h3 hbw.out); clear h2 h3; have k9 : w9.cell? ⟨B, 2, none⟩ = some (.slice ao acc.length cap) := blk_cell HO9.out.blk 2 _ rfl; have n9 : ∀ o, (w9.alloc o).cell? ⟨B, 2, none⟩ = some (.slice ao acc.length cap) := fun o => blk_cell (blk_alloc HO9.out.blk o) 2 _ rfl; have m9 : ∀ o o', ((w9.alloc o).alloc o').cell? ⟨B, 2, none⟩ = some (.slice ao acc.length cap) := fun o o' => blk_cell (blk_alloc (blk_alloc HO9.out.blk o) o') 2 _ rfl)))
  all_goals
    go_wp2_with fail
    have HAF := Lib.hid (afterIt_mk' HB.out hbw.out hsrc.out ((HO9.out.alloc _).alloc _) (it_brace w9 _ _ (xlt HO9.out) _) ((HS9.out.grownAlloc _).grownAlloc _) (one_alloc (one_alloc HG9.out _) _) HGw.out HO'.out HAt.out)
    obtain ⟨g2, cp2, v2, ho, hs, hg⟩ := HAF.out
    exact HK.out _ _ (min (c + 4) (zs.length + 1)) (by omega) ⟨rfl, rfl, rfl, rfl, rfl⟩ ⟨c, q, some ⟨g2, 0, none⟩, cp2, _, vs ++ [v2], ho, hs, hg, HR.out, by simp; omega, by omega, by omega⟩



end Go.Proofs.YtcfhhcjcnafcjaaFmt
