/-
  A round of parsePattern, the case quantLit. Its condition: as its statement says.
-/
import Derived.Test.YtcfhhcjcnafcjaaFmtPatAll
namespace Go.Proofs.YtcfhhcjcnafcjaaFmt
open Go.RowKit
set_option linter.unusedVariables false
set_option linter.unusedSimpArgs false

set_option maxHeartbeats 4000000 in
set_option maxRecDepth 1000000 in
theorem pp_quantLit {w wr : World} {B b : Nat} {sao : Option Addr} {scap : Nat} {zs : List Int} {top must : Bool} {r : PR} {cs c s' : Nat} {q : Bool} {ao : Option Addr} {cap : Nat} {acc : List Pt} {vs : List Value} {K : Act → World → Prop}
    (hB : w.heap.size = B) (hb : b < B) (hsr : ∀ sb so, sao = some ⟨sb, so, none⟩ → sb < B) (h0 : 0 < zs.length) (hl : zs.length ≤ 4194304) (ih : PIh b sao scap zs cs)
    (ho : PatO wr B B must q ao cap acc vs) (hs : Scan wr b sao scap zs c s') (hg : w.grownBy wr (some b)) (hle : acc.length ≤ c) (hcm : cs ≤ c) (hcb : c ≤ zs.length + 1)
    (hK : ∀ a' w' c', c < c' → PFr b B top a' → PRel w B b sao scap zs top must r cs w' c' → K a' w')
    (hz : chr zs c = 42 ∨ chr zs c = 43 ∨ chr zs c = 45 ∨ chr zs c = 63) (hno : ∀ a cl, acc ≠ a ++ [.one cl]) (hr2 : PRun zs top (c + 1) (acc ++ [.one (.el (.chr (chr zs c)))]) q r) (f : Nat → Value) :
    ppBody.wp Tryf.prog (Exit.then K (PQ w B b sao scap zs top must r)) { tmps := #[.pointer (some ⟨b, 0, none⟩), .bool top, f 2, f 3, f 4, .pointer (some ⟨B, 0, none⟩), f 6, f 7, f 8, f 9, f 10, f 11, f 12, f 13, f 14, f 15, f 16, f 17, f 18, f 19, f 20, f 21, f 22, f 23, f 24, f 25, f 26, f 27, f 28, f 29, f 30, f 31, f 32, f 33, f 34, f 35, f 36, f 37, f 38, f 39, f 40, f 41, f 42, f 43, f 44, f 45, f 46, f 47, f 48, f 49, f 50, f 51, f 52, f 53, f 54, f 55, f 56, f 57, f 58, f 59, f 60, f 61, f 62, f 63, f 64, f 65, f 66, f 67, f 68, f 69, f 70, f 71, f 72, f 73, f 74, f 75, f 76, f 77, f 78, f 79, f 80, f 81, f 82, f 83, f 84, f 85, f 86, f 87, f 88, f 89, f 90, f 91, f 92, f 93, f 94, f 95, f 96, f 97, f 98, f 99, f 100, f 101, f 102, f 103, f 104, f 105, f 106, f 107, f 108, f 109, f 110, f 111, f 112, f 113, f 114, f 115, f 116, f 117, f 118, f 119, f 120, f 121, f 122, f 123, f 124, f 125, f 126, f 127, f 128, f 129, f 130, f 131, f 132, f 133, f 134, f 135, f 136, f 137, f 138, f 139, f 140, f 141, f 142, f 143, f 144, f 145, f 146, f 147, f 148, f 149, f 150, f 151, f 152, f 153, f 154, f 155, f 156, f 157, f 158, f 159, f 160, f 161, f 162, f 163, f 164, f 165, f 166, f 167, f 168, f 169, f 170, f 171, f 172, f 173, f 174, f 175, f 176, f 177, f 178, f 179, f 180, f 181, f 182, f 183, f 184, f 185, f 186, f 187, f 188, f 189, f 190, f 191, f 192, f 193, f 194, f 195, f 196, f 197, f 198, f 199, f 200, f 201, f 202, f 203, f 204, f 205, f 206, f 207, f 208, f 209, f 210, f 211, f 212, f 213, f 214, f 215, f 216, f 217, f 218, f 219, f 220, f 221, f 222, f 223, f 224, f 225, f 226, f 227, f 228, f 229, f 230, f 231, f 232, f 233, f 234, f 235, f 236, f 237, f 238, f 239, f 240, f 241, f 242, f 243, f 244, f 245, f 246, f 247, f 248, f 249, f 250, f 251, f 252, f 253, f 254, f 255, f 256, f 257, f 258, f 259, f 260, f 261, f 262, f 263, f 264, f 265, f 266, f 267, f 268, f 269, f 270, f 271, f 272, f 273, f 274, f 275, f 276, f 277, f 278, f 279, f 280, f 281, f 282, f 283, f 284, f 285, f 286, f 287, f 288, f 289, f 290, f 291, f 292, f 293, f 294, f 295, f 296, f 297, f 298, f 299, f 300, f 301, f 302, f 303, f 304, f 305, f 306, f 307], defers := [] } wr := by
  obtain ⟨i0, hi, hz0, hz1, hz2⟩ := info_parts pattern_info
  have hbw := Lib.hid hb
  have hsrc := Lib.hid hsr
  have HB := Lib.hid hB
  have IH := Lib.hid ih
  have HOr := Lib.hid ho
  have HSr := Lib.hid hs
  have HGr := Lib.hid hg
  have HK := Lib.hid hK
  clear hB hb hsr ih ho hs hg hK
  conv => arg 2; whnf
  have hlt : c < zs.length := chr_lt (by rcases hz with h | h | h | h <;> (rw [h]; omega))
  have HR := Lib.hid hr2
  have HZZ := Lib.hid hz
  clear hr2 hz
  rcases List.eq_nil_or_concat acc with hnil | ⟨acc1, p, hacc⟩
  · have hn0 : acc.length ≤ 0 := by rw [hnil]; exact Nat.le_refl _
    clear hno hnil
    rcases HZZ.out with hz | hz | hz | hz
    · have HR := Lib.hid (hz ▸ HR.out)
      have HZ := Lib.hid hz
      clear hz
      go_wp2_with fail
      refine (peek_at HSr.out h0 HZ.out).mono ?_
      rintro e w1 ⟨rfl, hs1, hg1⟩
      have HO1 := Lib.hid (HOr.out.call hg1 hbw.out)
      have HS1 := Lib.hid hs1
      have HG1 := Lib.hid (one_trans HGr.out hg1)
      clear hs1 hg1
      go_wp2_with fail
      refine (next_at HS1.out (by omega) HZ.out).mono ?_
      rintro e w2 ⟨rfl, hs2, hg2⟩
      have HO2 := Lib.hid (HO1.out.call hg2 hbw.out)
      have HS2 := Lib.hid hs2
      have HG2 := Lib.hid (one_trans HG1.out hg2)
      clear hs2 hg2
      have k2 : w2.cell? ⟨B, 2, none⟩ = some (.slice ao acc.length cap) := blk_cell HO2.out.blk 2 _ rfl
      have f2 : w2.frozen? ⟨B, 2, none⟩ = false := blk_free HO2.out.blk 2
      go_wp2_with (at_builtin; refine wpList_push _ rfl (.tmp 254) (.tmp 262) 74 rfl B 105 i0 .nilIface 1 16 Tryf.underlying74 hi hz0 hz1 hz2 rfl (by decide) _ _ _ _ rfl (((HO2.out.own.alloc _).alloc _).alloc _) ⟨w2.heap.size + 2, 0, none⟩ 1 1 [.iface 95 (.pointer (some ⟨w2.heap.size + 1, 0, none⟩))] rfl rfl (news_at2 (by simp)) (fun u hu => by simp at hu; subst hu; rfl) (by decide) (by unfold maxLen; omega) (by omega) (by have := HO2.out.hm; have := blk_lt HO2.out.blk; simp; omega) ?_; intro g1 c1 w8 hown' hgrow hwhere; have HO' := Lib.hid hown'; have HGw := Lib.hid hgrow; have HWh := Lib.hid hwhere; clear hown' hgrow hwhere; have hb8 := blk_grown (((HO2.out.alloc _).alloc _).alloc _).blk HGw.out (fun e => by have := HO2.out.row _ e.symm; omega); have k8 : w8.cell? ⟨B, 2, none⟩ = some (.slice ao acc.length cap) := blk_cell hb8 2 _ rfl; have f8 : w8.frozen? ⟨B, 2, none⟩ = false := blk_free hb8 2; clear hb8)
      have HAF := Lib.hid (afterIt_mk HB.out hbw.out hsrc.out (((HO2.out.alloc _).alloc _).alloc _) (it_chr w2 42 (xlt HO2.out) _) (((HS2.out.grownAlloc _).grownAlloc _).grownAlloc _) (one_alloc (one_alloc (one_alloc HG2.out _) _) _) HGw.out HO'.out HWh.out)
      obtain ⟨g2, cp2, v2, ho, hs, hg⟩ := HAF.out
      exact HK.out _ _ (c + 1) (by omega) ⟨rfl, rfl, rfl, rfl, rfl⟩ ⟨s', q, some ⟨g2, 0, none⟩, cp2, _, vs ++ [v2], ho, hs, hg, HR.out, by simp; omega, by omega, by omega⟩
    · have HR := Lib.hid (hz ▸ HR.out)
      have HZ := Lib.hid hz
      clear hz
      go_wp2_with fail
      refine (peek_at HSr.out h0 HZ.out).mono ?_
      rintro e w1 ⟨rfl, hs1, hg1⟩
      have HO1 := Lib.hid (HOr.out.call hg1 hbw.out)
      have HS1 := Lib.hid hs1
      have HG1 := Lib.hid (one_trans HGr.out hg1)
      clear hs1 hg1
      go_wp2_with fail
      refine (next_at HS1.out (by omega) HZ.out).mono ?_
      rintro e w2 ⟨rfl, hs2, hg2⟩
      have HO2 := Lib.hid (HO1.out.call hg2 hbw.out)
      have HS2 := Lib.hid hs2
      have HG2 := Lib.hid (one_trans HG1.out hg2)
      clear hs2 hg2
      have k2 : w2.cell? ⟨B, 2, none⟩ = some (.slice ao acc.length cap) := blk_cell HO2.out.blk 2 _ rfl
      have f2 : w2.frozen? ⟨B, 2, none⟩ = false := blk_free HO2.out.blk 2
      go_wp2_with (at_builtin; refine wpList_push _ rfl (.tmp 254) (.tmp 262) 74 rfl B 105 i0 .nilIface 1 16 Tryf.underlying74 hi hz0 hz1 hz2 rfl (by decide) _ _ _ _ rfl (((HO2.out.own.alloc _).alloc _).alloc _) ⟨w2.heap.size + 2, 0, none⟩ 1 1 [.iface 95 (.pointer (some ⟨w2.heap.size + 1, 0, none⟩))] rfl rfl (news_at2 (by simp)) (fun u hu => by simp at hu; subst hu; rfl) (by decide) (by unfold maxLen; omega) (by omega) (by have := HO2.out.hm; have := blk_lt HO2.out.blk; simp; omega) ?_; intro g1 c1 w8 hown' hgrow hwhere; have HO' := Lib.hid hown'; have HGw := Lib.hid hgrow; have HWh := Lib.hid hwhere; clear hown' hgrow hwhere; have hb8 := blk_grown (((HO2.out.alloc _).alloc _).alloc _).blk HGw.out (fun e => by have := HO2.out.row _ e.symm; omega); have k8 : w8.cell? ⟨B, 2, none⟩ = some (.slice ao acc.length cap) := blk_cell hb8 2 _ rfl; have f8 : w8.frozen? ⟨B, 2, none⟩ = false := blk_free hb8 2; clear hb8)
      have HAF := Lib.hid (afterIt_mk HB.out hbw.out hsrc.out (((HO2.out.alloc _).alloc _).alloc _) (it_chr w2 43 (xlt HO2.out) _) (((HS2.out.grownAlloc _).grownAlloc _).grownAlloc _) (one_alloc (one_alloc (one_alloc HG2.out _) _) _) HGw.out HO'.out HWh.out)
      obtain ⟨g2, cp2, v2, ho, hs, hg⟩ := HAF.out
      exact HK.out _ _ (c + 1) (by omega) ⟨rfl, rfl, rfl, rfl, rfl⟩ ⟨s', q, some ⟨g2, 0, none⟩, cp2, _, vs ++ [v2], ho, hs, hg, HR.out, by simp; omega, by omega, by omega⟩
    · have HR := Lib.hid (hz ▸ HR.out)
      have HZ := Lib.hid hz
      clear hz
      go_wp2_with fail
      refine (peek_at HSr.out h0 HZ.out).mono ?_
      rintro e w1 ⟨rfl, hs1, hg1⟩
      have HO1 := Lib.hid (HOr.out.call hg1 hbw.out)
      have HS1 := Lib.hid hs1
      have HG1 := Lib.hid (one_trans HGr.out hg1)
      clear hs1 hg1
      go_wp2_with fail
      refine (next_at HS1.out (by omega) HZ.out).mono ?_
      rintro e w2 ⟨rfl, hs2, hg2⟩
      have HO2 := Lib.hid (HO1.out.call hg2 hbw.out)
      have HS2 := Lib.hid hs2
      have HG2 := Lib.hid (one_trans HG1.out hg2)
      clear hs2 hg2
      have k2 : w2.cell? ⟨B, 2, none⟩ = some (.slice ao acc.length cap) := blk_cell HO2.out.blk 2 _ rfl
      have f2 : w2.frozen? ⟨B, 2, none⟩ = false := blk_free HO2.out.blk 2
      go_wp2_with (at_builtin; refine wpList_push _ rfl (.tmp 254) (.tmp 262) 74 rfl B 105 i0 .nilIface 1 16 Tryf.underlying74 hi hz0 hz1 hz2 rfl (by decide) _ _ _ _ rfl (((HO2.out.own.alloc _).alloc _).alloc _) ⟨w2.heap.size + 2, 0, none⟩ 1 1 [.iface 95 (.pointer (some ⟨w2.heap.size + 1, 0, none⟩))] rfl rfl (news_at2 (by simp)) (fun u hu => by simp at hu; subst hu; rfl) (by decide) (by unfold maxLen; omega) (by omega) (by have := HO2.out.hm; have := blk_lt HO2.out.blk; simp; omega) ?_; intro g1 c1 w8 hown' hgrow hwhere; have HO' := Lib.hid hown'; have HGw := Lib.hid hgrow; have HWh := Lib.hid hwhere; clear hown' hgrow hwhere; have hb8 := blk_grown (((HO2.out.alloc _).alloc _).alloc _).blk HGw.out (fun e => by have := HO2.out.row _ e.symm; omega); have k8 : w8.cell? ⟨B, 2, none⟩ = some (.slice ao acc.length cap) := blk_cell hb8 2 _ rfl; have f8 : w8.frozen? ⟨B, 2, none⟩ = false := blk_free hb8 2; clear hb8)
      have HAF := Lib.hid (afterIt_mk HB.out hbw.out hsrc.out (((HO2.out.alloc _).alloc _).alloc _) (it_chr w2 45 (xlt HO2.out) _) (((HS2.out.grownAlloc _).grownAlloc _).grownAlloc _) (one_alloc (one_alloc (one_alloc HG2.out _) _) _) HGw.out HO'.out HWh.out)
      obtain ⟨g2, cp2, v2, ho, hs, hg⟩ := HAF.out
      exact HK.out _ _ (c + 1) (by omega) ⟨rfl, rfl, rfl, rfl, rfl⟩ ⟨s', q, some ⟨g2, 0, none⟩, cp2, _, vs ++ [v2], ho, hs, hg, HR.out, by simp; omega, by omega, by omega⟩
    · have HR := Lib.hid (hz ▸ HR.out)
      have HZ := Lib.hid hz
      clear hz
      go_wp2_with fail
      refine (peek_at HSr.out h0 HZ.out).mono ?_
      rintro e w1 ⟨rfl, hs1, hg1⟩
      have HO1 := Lib.hid (HOr.out.call hg1 hbw.out)
      have HS1 := Lib.hid hs1
      have HG1 := Lib.hid (one_trans HGr.out hg1)
      clear hs1 hg1
      go_wp2_with fail
      refine (next_at HS1.out (by omega) HZ.out).mono ?_
      rintro e w2 ⟨rfl, hs2, hg2⟩
      have HO2 := Lib.hid (HO1.out.call hg2 hbw.out)
      have HS2 := Lib.hid hs2
      have HG2 := Lib.hid (one_trans HG1.out hg2)
      clear hs2 hg2
      have k2 : w2.cell? ⟨B, 2, none⟩ = some (.slice ao acc.length cap) := blk_cell HO2.out.blk 2 _ rfl
      have f2 : w2.frozen? ⟨B, 2, none⟩ = false := blk_free HO2.out.blk 2
      go_wp2_with (at_builtin; refine wpList_push _ rfl (.tmp 254) (.tmp 262) 74 rfl B 105 i0 .nilIface 1 16 Tryf.underlying74 hi hz0 hz1 hz2 rfl (by decide) _ _ _ _ rfl (((HO2.out.own.alloc _).alloc _).alloc _) ⟨w2.heap.size + 2, 0, none⟩ 1 1 [.iface 95 (.pointer (some ⟨w2.heap.size + 1, 0, none⟩))] rfl rfl (news_at2 (by simp)) (fun u hu => by simp at hu; subst hu; rfl) (by decide) (by unfold maxLen; omega) (by omega) (by have := HO2.out.hm; have := blk_lt HO2.out.blk; simp; omega) ?_; intro g1 c1 w8 hown' hgrow hwhere; have HO' := Lib.hid hown'; have HGw := Lib.hid hgrow; have HWh := Lib.hid hwhere; clear hown' hgrow hwhere; have hb8 := blk_grown (((HO2.out.alloc _).alloc _).alloc _).blk HGw.out (fun e => by have := HO2.out.row _ e.symm; omega); have k8 : w8.cell? ⟨B, 2, none⟩ = some (.slice ao acc.length cap) := blk_cell hb8 2 _ rfl; have f8 : w8.frozen? ⟨B, 2, none⟩ = false := blk_free hb8 2; clear hb8)
      have HAF := Lib.hid (afterIt_mk HB.out hbw.out hsrc.out (((HO2.out.alloc _).alloc _).alloc _) (it_chr w2 63 (xlt HO2.out) _) (((HS2.out.grownAlloc _).grownAlloc _).grownAlloc _) (one_alloc (one_alloc (one_alloc HG2.out _) _) _) HGw.out HO'.out HWh.out)
      obtain ⟨g2, cp2, v2, ho, hs, hg⟩ := HAF.out
      exact HK.out _ _ (c + 1) (by omega) ⟨rfl, rfl, rfl, rfl, rfl⟩ ⟨s', q, some ⟨g2, 0, none⟩, cp2, _, vs ++ [v2], ho, hs, hg, HR.out, by simp; omega, by omega, by omega⟩
  · rw [List.concat_eq_append] at hacc
    subst hacc
    obtain ⟨g, rfl⟩ : ∃ g, ao = some ⟨g, 0, none⟩ := by
      rcases HOr.out.own.2 with ⟨_, h2⟩ | ⟨g, c', cur, h1, _⟩
      · simp at h2
      · simp only [Value.slice.injEq] at h1; exact ⟨g, h1.1⟩
    have hlen : (acc1 ++ [p]).length = acc1.length + 1 := by simp
    obtain ⟨N, hN⟩ : ∃ N, acc1.length = N := ⟨_, rfl⟩
    have HL := Lib.hid (hlen.trans (by rw [hN]) : (acc1 ++ [p]).length = N + 1)
    have HN := Lib.hid hN
    have hNb : N ≤ 4194305 := by have := HL.out; omega
    clear hlen hN
    have s0 : (0 : Int) ≤ (N : Int) := Int.natCast_nonneg _
    have s2 : (N : Int) < (N : Int) + 1 := by omega
    have s5 : IntKind.i64.wrap ((N : Int) + 1 - 1) = (N : Int) := by rw [IntWalk.i64_in _ (by omega)]; omega
    have HNO := Lib.hid hno
    clear hno
    rcases HZZ.out with hz | hz | hz | hz
    · have HR := Lib.hid (hz ▸ HR.out)
      have HZ := Lib.hid hz
      clear hz
      go_wp2_with fail
      refine (peek_at HSr.out h0 HZ.out).mono ?_
      rintro e w1 ⟨rfl, hs1, hg1⟩
      have HO1 := Lib.hid (HOr.out.call hg1 hbw.out)
      have HS1 := Lib.hid hs1
      have HG1 := Lib.hid (one_trans HGr.out hg1)
      clear hs1 hg1
      go_wp2_with fail
      refine (next_at HS1.out (by omega) HZ.out).mono ?_
      rintro e w2 ⟨rfl, hs2, hg2⟩
      have HO2 := Lib.hid (HO1.out.call hg2 hbw.out)
      have HS2 := Lib.hid hs2
      have HG2 := Lib.hid (one_trans HG1.out hg2)
      clear hs2 hg2
      have k2 : w2.cell? ⟨B, 2, none⟩ = some (.slice (some ⟨g, 0, none⟩) (N + 1) cap) := by rw [← HL.out]; exact blk_cell HO2.out.blk 2 _ rfl
      have f2 : w2.frozen? ⟨B, 2, none⟩ = false := blk_free HO2.out.blk 2
      obtain ⟨us, v, hvs, hul, hit, hcut⟩ := HO2.out.cut
      obtain ⟨T, bS, hv', hT⟩ : ∃ T b, [v] = [.iface T (.pointer (some ⟨b, 0, none⟩))] ∧ (∀ (x : Value) (w : World), (Instr.typeAssert (.iface T x) 105 95 true).run Tryf.prog w = .ok (.tuple #[.pointer none, .bool false]) w) := by
        rcases hit.last with ⟨cl', _, _, hcl', _⟩ | ⟨_, T, b, h1, h2⟩
        · exact absurd (by rw [hcl']) (HNO.out acc1 cl')
        · refine ⟨T, b, h1, ?_⟩
          rcases h2 with rfl | rfl | rfl | rfl | rfl
          · exact as_rep
          · exact as_pos
          · exact as_cap
          · exact as_num
          · exact as_brace
      cases hv'
      have kg : w2.cell? ⟨g, N, none⟩ = some (.iface T (.pointer (some ⟨bS, 0, none⟩))) := by
        rw [HO2.out.own.cellAt N (by have := HL.out; omega), hvs, List.getElem?_append_right (by rw [hul, HN.out]; exact Nat.le_refl _), hul, HN.out, Nat.sub_self]
        rfl
      clear hit hcut hvs hul
      go_wp2_with fail
      go_quiet (fail)
      generalize hwd : World.drewN w2 _ = wd
      have HO2 : Hid (PatO wd B B must q (some ⟨g, 0, none⟩) cap (acc1 ++ [p]) vs) := by subst hwd; exact Lib.hid (HO2.out.drewN _)
      have HS2 : Hid (Scan wd b sao scap zs (c + 1) s') := by subst hwd; exact Lib.hid (HS2.out.drewN' _)
      have HG2 : Hid (w.grownBy wd (some b)) := by subst hwd; exact Lib.hid (one_drewN HG2.out _)
      clear hwd k2 f2 kg
      have k2 : wd.cell? ⟨B, 2, none⟩ = some (.slice (some ⟨g, 0, none⟩) (N + 1) cap) := by rw [← HL.out]; exact blk_cell HO2.out.blk 2 _ rfl
      have f2 : wd.frozen? ⟨B, 2, none⟩ = false := blk_free HO2.out.blk 2
      have HOWN : Hid (wd.ownsRow B 105 1 (.slice (some ⟨g, 0, none⟩) (N + 1) cap) (N + 1) vs) := by have := HO2.out.own; rw [HL.out] at this; exact Lib.hid this
      go_wp2_with (at_builtin; refine wpList_push _ rfl (.tmp 254) (.tmp 262) 74 rfl B 105 i0 .nilIface 1 16 Tryf.underlying74 hi hz0 hz1 hz2 rfl (by decide) _ _ _ _ rfl (((HOWN.out.alloc _).alloc _).alloc _) ⟨wd.heap.size + 2, 0, none⟩ 1 1 [.iface 95 (.pointer (some ⟨wd.heap.size + 1, 0, none⟩))] rfl rfl (news_at2 (by simp)) (fun u hu => by simp at hu; subst hu; rfl) (by decide) (by unfold maxLen; omega) (by omega) (by have := HO2.out.hm; have := blk_lt HO2.out.blk; simp; omega) ?_; intro g1 c1 w8 hown' hgrow hwhere; have HO' := Lib.hid hown'; have HGw := Lib.hid hgrow; have HWh := Lib.hid hwhere; clear hown' hgrow hwhere; have hb8 := blk_grown (((HO2.out.alloc _).alloc _).alloc _).blk HGw.out (fun e => by have := HO2.out.row _ e.symm; omega); have k8 : w8.cell? ⟨B, 2, none⟩ = some (.slice (some ⟨g, 0, none⟩) (N + 1) cap) := (by rw [← HL.out]; exact blk_cell hb8 2 _ rfl); have f8 : w8.frozen? ⟨B, 2, none⟩ = false := blk_free hb8 2; clear hb8)
      have hAF := (afterIt_mk (g1 := g1) (c1 := c1) (w3 := w8) HB.out hbw.out hsrc.out (((HO2.out.alloc _).alloc _).alloc _) (it_chr wd 42 (xlt HO2.out) _) (((HS2.out.grownAlloc _).grownAlloc _).grownAlloc _) (one_alloc (one_alloc (one_alloc HG2.out _) _) _) HGw.out (by rw [HL.out]; exact HO'.out) HWh.out)
      rw [HL.out] at hAF
      have HAF := Lib.hid hAF
      obtain ⟨g2, cp2, v2, ho, hs, hg⟩ := HAF.out
      exact HK.out _ _ (c + 1) (by omega) ⟨rfl, rfl, rfl, rfl, rfl⟩ ⟨s', q, some ⟨g2, 0, none⟩, cp2, _, vs ++ [v2], ho, hs, hg, HR.out, by rw [List.length_append]; simp only [List.length_singleton]; omega, by omega, by omega⟩
    · have HR := Lib.hid (hz ▸ HR.out)
      have HZ := Lib.hid hz
      clear hz
      go_wp2_with fail
      refine (peek_at HSr.out h0 HZ.out).mono ?_
      rintro e w1 ⟨rfl, hs1, hg1⟩
      have HO1 := Lib.hid (HOr.out.call hg1 hbw.out)
      have HS1 := Lib.hid hs1
      have HG1 := Lib.hid (one_trans HGr.out hg1)
      clear hs1 hg1
      go_wp2_with fail
      refine (next_at HS1.out (by omega) HZ.out).mono ?_
      rintro e w2 ⟨rfl, hs2, hg2⟩
      have HO2 := Lib.hid (HO1.out.call hg2 hbw.out)
      have HS2 := Lib.hid hs2
      have HG2 := Lib.hid (one_trans HG1.out hg2)
      clear hs2 hg2
      have k2 : w2.cell? ⟨B, 2, none⟩ = some (.slice (some ⟨g, 0, none⟩) (N + 1) cap) := by rw [← HL.out]; exact blk_cell HO2.out.blk 2 _ rfl
      have f2 : w2.frozen? ⟨B, 2, none⟩ = false := blk_free HO2.out.blk 2
      obtain ⟨us, v, hvs, hul, hit, hcut⟩ := HO2.out.cut
      obtain ⟨T, bS, hv', hT⟩ : ∃ T b, [v] = [.iface T (.pointer (some ⟨b, 0, none⟩))] ∧ (∀ (x : Value) (w : World), (Instr.typeAssert (.iface T x) 105 95 true).run Tryf.prog w = .ok (.tuple #[.pointer none, .bool false]) w) := by
        rcases hit.last with ⟨cl', _, _, hcl', _⟩ | ⟨_, T, b, h1, h2⟩
        · exact absurd (by rw [hcl']) (HNO.out acc1 cl')
        · refine ⟨T, b, h1, ?_⟩
          rcases h2 with rfl | rfl | rfl | rfl | rfl
          · exact as_rep
          · exact as_pos
          · exact as_cap
          · exact as_num
          · exact as_brace
      cases hv'
      have kg : w2.cell? ⟨g, N, none⟩ = some (.iface T (.pointer (some ⟨bS, 0, none⟩))) := by
        rw [HO2.out.own.cellAt N (by have := HL.out; omega), hvs, List.getElem?_append_right (by rw [hul, HN.out]; exact Nat.le_refl _), hul, HN.out, Nat.sub_self]
        rfl
      clear hit hcut hvs hul
      go_wp2_with fail
      go_quiet (fail)
      generalize hwd : World.drewN w2 _ = wd
      have HO2 : Hid (PatO wd B B must q (some ⟨g, 0, none⟩) cap (acc1 ++ [p]) vs) := by subst hwd; exact Lib.hid (HO2.out.drewN _)
      have HS2 : Hid (Scan wd b sao scap zs (c + 1) s') := by subst hwd; exact Lib.hid (HS2.out.drewN' _)
      have HG2 : Hid (w.grownBy wd (some b)) := by subst hwd; exact Lib.hid (one_drewN HG2.out _)
      clear hwd k2 f2 kg
      have k2 : wd.cell? ⟨B, 2, none⟩ = some (.slice (some ⟨g, 0, none⟩) (N + 1) cap) := by rw [← HL.out]; exact blk_cell HO2.out.blk 2 _ rfl
      have f2 : wd.frozen? ⟨B, 2, none⟩ = false := blk_free HO2.out.blk 2
      have HOWN : Hid (wd.ownsRow B 105 1 (.slice (some ⟨g, 0, none⟩) (N + 1) cap) (N + 1) vs) := by have := HO2.out.own; rw [HL.out] at this; exact Lib.hid this
      go_wp2_with (at_builtin; refine wpList_push _ rfl (.tmp 254) (.tmp 262) 74 rfl B 105 i0 .nilIface 1 16 Tryf.underlying74 hi hz0 hz1 hz2 rfl (by decide) _ _ _ _ rfl (((HOWN.out.alloc _).alloc _).alloc _) ⟨wd.heap.size + 2, 0, none⟩ 1 1 [.iface 95 (.pointer (some ⟨wd.heap.size + 1, 0, none⟩))] rfl rfl (news_at2 (by simp)) (fun u hu => by simp at hu; subst hu; rfl) (by decide) (by unfold maxLen; omega) (by omega) (by have := HO2.out.hm; have := blk_lt HO2.out.blk; simp; omega) ?_; intro g1 c1 w8 hown' hgrow hwhere; have HO' := Lib.hid hown'; have HGw := Lib.hid hgrow; have HWh := Lib.hid hwhere; clear hown' hgrow hwhere; have hb8 := blk_grown (((HO2.out.alloc _).alloc _).alloc _).blk HGw.out (fun e => by have := HO2.out.row _ e.symm; omega); have k8 : w8.cell? ⟨B, 2, none⟩ = some (.slice (some ⟨g, 0, none⟩) (N + 1) cap) := (by rw [← HL.out]; exact blk_cell hb8 2 _ rfl); have f8 : w8.frozen? ⟨B, 2, none⟩ = false := blk_free hb8 2; clear hb8)
      have hAF := (afterIt_mk (g1 := g1) (c1 := c1) (w3 := w8) HB.out hbw.out hsrc.out (((HO2.out.alloc _).alloc _).alloc _) (it_chr wd 43 (xlt HO2.out) _) (((HS2.out.grownAlloc _).grownAlloc _).grownAlloc _) (one_alloc (one_alloc (one_alloc HG2.out _) _) _) HGw.out (by rw [HL.out]; exact HO'.out) HWh.out)
      rw [HL.out] at hAF
      have HAF := Lib.hid hAF
      obtain ⟨g2, cp2, v2, ho, hs, hg⟩ := HAF.out
      exact HK.out _ _ (c + 1) (by omega) ⟨rfl, rfl, rfl, rfl, rfl⟩ ⟨s', q, some ⟨g2, 0, none⟩, cp2, _, vs ++ [v2], ho, hs, hg, HR.out, by rw [List.length_append]; simp only [List.length_singleton]; omega, by omega, by omega⟩
    · have HR := Lib.hid (hz ▸ HR.out)
      have HZ := Lib.hid hz
      clear hz
      go_wp2_with fail
      refine (peek_at HSr.out h0 HZ.out).mono ?_
      rintro e w1 ⟨rfl, hs1, hg1⟩
      have HO1 := Lib.hid (HOr.out.call hg1 hbw.out)
      have HS1 := Lib.hid hs1
      have HG1 := Lib.hid (one_trans HGr.out hg1)
      clear hs1 hg1
      go_wp2_with fail
      refine (next_at HS1.out (by omega) HZ.out).mono ?_
      rintro e w2 ⟨rfl, hs2, hg2⟩
      have HO2 := Lib.hid (HO1.out.call hg2 hbw.out)
      have HS2 := Lib.hid hs2
      have HG2 := Lib.hid (one_trans HG1.out hg2)
      clear hs2 hg2
      have k2 : w2.cell? ⟨B, 2, none⟩ = some (.slice (some ⟨g, 0, none⟩) (N + 1) cap) := by rw [← HL.out]; exact blk_cell HO2.out.blk 2 _ rfl
      have f2 : w2.frozen? ⟨B, 2, none⟩ = false := blk_free HO2.out.blk 2
      obtain ⟨us, v, hvs, hul, hit, hcut⟩ := HO2.out.cut
      obtain ⟨T, bS, hv', hT⟩ : ∃ T b, [v] = [.iface T (.pointer (some ⟨b, 0, none⟩))] ∧ (∀ (x : Value) (w : World), (Instr.typeAssert (.iface T x) 105 95 true).run Tryf.prog w = .ok (.tuple #[.pointer none, .bool false]) w) := by
        rcases hit.last with ⟨cl', _, _, hcl', _⟩ | ⟨_, T, b, h1, h2⟩
        · exact absurd (by rw [hcl']) (HNO.out acc1 cl')
        · refine ⟨T, b, h1, ?_⟩
          rcases h2 with rfl | rfl | rfl | rfl | rfl
          · exact as_rep
          · exact as_pos
          · exact as_cap
          · exact as_num
          · exact as_brace
      cases hv'
      have kg : w2.cell? ⟨g, N, none⟩ = some (.iface T (.pointer (some ⟨bS, 0, none⟩))) := by
        rw [HO2.out.own.cellAt N (by have := HL.out; omega), hvs, List.getElem?_append_right (by rw [hul, HN.out]; exact Nat.le_refl _), hul, HN.out, Nat.sub_self]
        rfl
      clear hit hcut hvs hul
      go_wp2_with fail
      go_quiet (fail)
      generalize hwd : World.drewN w2 _ = wd
      have HO2 : Hid (PatO wd B B must q (some ⟨g, 0, none⟩) cap (acc1 ++ [p]) vs) := by subst hwd; exact Lib.hid (HO2.out.drewN _)
      have HS2 : Hid (Scan wd b sao scap zs (c + 1) s') := by subst hwd; exact Lib.hid (HS2.out.drewN' _)
      have HG2 : Hid (w.grownBy wd (some b)) := by subst hwd; exact Lib.hid (one_drewN HG2.out _)
      clear hwd k2 f2 kg
      have k2 : wd.cell? ⟨B, 2, none⟩ = some (.slice (some ⟨g, 0, none⟩) (N + 1) cap) := by rw [← HL.out]; exact blk_cell HO2.out.blk 2 _ rfl
      have f2 : wd.frozen? ⟨B, 2, none⟩ = false := blk_free HO2.out.blk 2
      have HOWN : Hid (wd.ownsRow B 105 1 (.slice (some ⟨g, 0, none⟩) (N + 1) cap) (N + 1) vs) := by have := HO2.out.own; rw [HL.out] at this; exact Lib.hid this
      go_wp2_with (at_builtin; refine wpList_push _ rfl (.tmp 254) (.tmp 262) 74 rfl B 105 i0 .nilIface 1 16 Tryf.underlying74 hi hz0 hz1 hz2 rfl (by decide) _ _ _ _ rfl (((HOWN.out.alloc _).alloc _).alloc _) ⟨wd.heap.size + 2, 0, none⟩ 1 1 [.iface 95 (.pointer (some ⟨wd.heap.size + 1, 0, none⟩))] rfl rfl (news_at2 (by simp)) (fun u hu => by simp at hu; subst hu; rfl) (by decide) (by unfold maxLen; omega) (by omega) (by have := HO2.out.hm; have := blk_lt HO2.out.blk; simp; omega) ?_; intro g1 c1 w8 hown' hgrow hwhere; have HO' := Lib.hid hown'; have HGw := Lib.hid hgrow; have HWh := Lib.hid hwhere; clear hown' hgrow hwhere; have hb8 := blk_grown (((HO2.out.alloc _).alloc _).alloc _).blk HGw.out (fun e => by have := HO2.out.row _ e.symm; omega); have k8 : w8.cell? ⟨B, 2, none⟩ = some (.slice (some ⟨g, 0, none⟩) (N + 1) cap) := (by rw [← HL.out]; exact blk_cell hb8 2 _ rfl); have f8 : w8.frozen? ⟨B, 2, none⟩ = false := blk_free hb8 2; clear hb8)
      have hAF := (afterIt_mk (g1 := g1) (c1 := c1) (w3 := w8) HB.out hbw.out hsrc.out (((HO2.out.alloc _).alloc _).alloc _) (it_chr wd 45 (xlt HO2.out) _) (((HS2.out.grownAlloc _).grownAlloc _).grownAlloc _) (one_alloc (one_alloc (one_alloc HG2.out _) _) _) HGw.out (by rw [HL.out]; exact HO'.out) HWh.out)
      rw [HL.out] at hAF
      have HAF := Lib.hid hAF
      obtain ⟨g2, cp2, v2, ho, hs, hg⟩ := HAF.out
      exact HK.out _ _ (c + 1) (by omega) ⟨rfl, rfl, rfl, rfl, rfl⟩ ⟨s', q, some ⟨g2, 0, none⟩, cp2, _, vs ++ [v2], ho, hs, hg, HR.out, by rw [List.length_append]; simp only [List.length_singleton]; omega, by omega, by omega⟩
    · have HR := Lib.hid (hz ▸ HR.out)
      have HZ := Lib.hid hz
      clear hz
      go_wp2_with fail
      refine (peek_at HSr.out h0 HZ.out).mono ?_
      rintro e w1 ⟨rfl, hs1, hg1⟩
      have HO1 := Lib.hid (HOr.out.call hg1 hbw.out)
      have HS1 := Lib.hid hs1
      have HG1 := Lib.hid (one_trans HGr.out hg1)
      clear hs1 hg1
      go_wp2_with fail
      refine (next_at HS1.out (by omega) HZ.out).mono ?_
      rintro e w2 ⟨rfl, hs2, hg2⟩
      have HO2 := Lib.hid (HO1.out.call hg2 hbw.out)
      have HS2 := Lib.hid hs2
      have HG2 := Lib.hid (one_trans HG1.out hg2)
      clear hs2 hg2
      have k2 : w2.cell? ⟨B, 2, none⟩ = some (.slice (some ⟨g, 0, none⟩) (N + 1) cap) := by rw [← HL.out]; exact blk_cell HO2.out.blk 2 _ rfl
      have f2 : w2.frozen? ⟨B, 2, none⟩ = false := blk_free HO2.out.blk 2
      obtain ⟨us, v, hvs, hul, hit, hcut⟩ := HO2.out.cut
      obtain ⟨T, bS, hv', hT⟩ : ∃ T b, [v] = [.iface T (.pointer (some ⟨b, 0, none⟩))] ∧ (∀ (x : Value) (w : World), (Instr.typeAssert (.iface T x) 105 95 true).run Tryf.prog w = .ok (.tuple #[.pointer none, .bool false]) w) := by
        rcases hit.last with ⟨cl', _, _, hcl', _⟩ | ⟨_, T, b, h1, h2⟩
        · exact absurd (by rw [hcl']) (HNO.out acc1 cl')
        · refine ⟨T, b, h1, ?_⟩
          rcases h2 with rfl | rfl | rfl | rfl | rfl
          · exact as_rep
          · exact as_pos
          · exact as_cap
          · exact as_num
          · exact as_brace
      cases hv'
      have kg : w2.cell? ⟨g, N, none⟩ = some (.iface T (.pointer (some ⟨bS, 0, none⟩))) := by
        rw [HO2.out.own.cellAt N (by have := HL.out; omega), hvs, List.getElem?_append_right (by rw [hul, HN.out]; exact Nat.le_refl _), hul, HN.out, Nat.sub_self]
        rfl
      clear hit hcut hvs hul
      go_wp2_with fail
      go_quiet (fail)
      generalize hwd : World.drewN w2 _ = wd
      have HO2 : Hid (PatO wd B B must q (some ⟨g, 0, none⟩) cap (acc1 ++ [p]) vs) := by subst hwd; exact Lib.hid (HO2.out.drewN _)
      have HS2 : Hid (Scan wd b sao scap zs (c + 1) s') := by subst hwd; exact Lib.hid (HS2.out.drewN' _)
      have HG2 : Hid (w.grownBy wd (some b)) := by subst hwd; exact Lib.hid (one_drewN HG2.out _)
      clear hwd k2 f2 kg
      have k2 : wd.cell? ⟨B, 2, none⟩ = some (.slice (some ⟨g, 0, none⟩) (N + 1) cap) := by rw [← HL.out]; exact blk_cell HO2.out.blk 2 _ rfl
      have f2 : wd.frozen? ⟨B, 2, none⟩ = false := blk_free HO2.out.blk 2
      have HOWN : Hid (wd.ownsRow B 105 1 (.slice (some ⟨g, 0, none⟩) (N + 1) cap) (N + 1) vs) := by have := HO2.out.own; rw [HL.out] at this; exact Lib.hid this
      go_wp2_with (at_builtin; refine wpList_push _ rfl (.tmp 254) (.tmp 262) 74 rfl B 105 i0 .nilIface 1 16 Tryf.underlying74 hi hz0 hz1 hz2 rfl (by decide) _ _ _ _ rfl (((HOWN.out.alloc _).alloc _).alloc _) ⟨wd.heap.size + 2, 0, none⟩ 1 1 [.iface 95 (.pointer (some ⟨wd.heap.size + 1, 0, none⟩))] rfl rfl (news_at2 (by simp)) (fun u hu => by simp at hu; subst hu; rfl) (by decide) (by unfold maxLen; omega) (by omega) (by have := HO2.out.hm; have := blk_lt HO2.out.blk; simp; omega) ?_; intro g1 c1 w8 hown' hgrow hwhere; have HO' := Lib.hid hown'; have HGw := Lib.hid hgrow; have HWh := Lib.hid hwhere; clear hown' hgrow hwhere; have hb8 := blk_grown (((HO2.out.alloc _).alloc _).alloc _).blk HGw.out (fun e => by have := HO2.out.row _ e.symm; omega); have k8 : w8.cell? ⟨B, 2, none⟩ = some (.slice (some ⟨g, 0, none⟩) (N + 1) cap) := (by rw [← HL.out]; exact blk_cell hb8 2 _ rfl); have f8 : w8.frozen? ⟨B, 2, none⟩ = false := blk_free hb8 2; clear hb8)
      have hAF := (afterIt_mk (g1 := g1) (c1 := c1) (w3 := w8) HB.out hbw.out hsrc.out (((HO2.out.alloc _).alloc _).alloc _) (it_chr wd 63 (xlt HO2.out) _) (((HS2.out.grownAlloc _).grownAlloc _).grownAlloc _) (one_alloc (one_alloc (one_alloc HG2.out _) _) _) HGw.out (by rw [HL.out]; exact HO'.out) HWh.out)
      rw [HL.out] at hAF
      have HAF := Lib.hid hAF
      obtain ⟨g2, cp2, v2, ho, hs, hg⟩ := HAF.out
      exact HK.out _ _ (c + 1) (by omega) ⟨rfl, rfl, rfl, rfl, rfl⟩ ⟨s', q, some ⟨g2, 0, none⟩, cp2, _, vs ++ [v2], ho, hs, hg, HR.out, by rw [List.length_append]; simp only [List.length_singleton]; omega, by omega, by omega⟩


end Go.Proofs.YtcfhhcjcnafcjaaFmt
