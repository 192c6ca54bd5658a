/-
  A region of the decoder's closing of a capture. Its condition: the decoder's state lies in memory as told.
-/
import Derived.Test.YtcfhhcjcnafcjaaFmtDecBase
namespace Go.Proofs.YtcfhhcjcnafcjaaFmt
open Go.RowKit
set_option linter.unusedVariables false
set_option linter.unusedSimpArgs false

set_option maxRecDepth 100000 in
set_option maxHeartbeats 40000000 in
theorem close_rg6 {w0 w : World} {B r p d nc : Nat} {an tl : Bool} {R1 : Fin 6 → Rw} {ts : List Tk} {txt : List Int} {ps : List Bool} {op ct cl : List Nat} {n : Nat} {u1 u2 u4 u5 u6 u7 u8 u9 u10 u11 u12 u13 u14 u15 u16 u17 u18 u19 u20 u21 u22 u23 u24 u25 u26 u27 u28 u29 u30 u31 u32 u33 u34 u35 u36 u37 u38 u39 u40 u41 u42 u43 u44 u45 u46 u47 u48 u49 u50 u51 u52 u53 u54 u55 u56 u57 u58 u59 u60 u61 u62 u63 u64 u65 u66 u67 u68 u69 u70 u71 u72 u73 u74 u75 u76 u77 u78 u79 u80 u81 u82 u83 u84 u85 u86 u87 u88 u89 u90 u91 u92 u93 u94 u95 u96 u97 u98 u99 u100 u101 u102 u103 u104 u105 u106 u107 u108 u109 u110 u111 u112 u113 u114 u115 u116 : Value} (h : DecS w0 w B r p d an tl nc R1 ts) (hc : Cont R1 txt ps op ct cl) (hn : (R1 1).n ≤ 4194400) :
    (closeRg 6).wp Tryf.prog (RgPost (fun a => ∃ g72 g73 g74 g75 g76 g77 g78 g79 g80 g81 g82 g83 g84 g85 g86 g87 g88 : Value, a = { tmps := #[.pointer (some ⟨d, 0, none⟩), u1, u2, .int .i64 (n : Int), u4, u5, u6, u7, u8, u9, u10, u11, u12, u13, u14, u15, u16, u17, u18, u19, u20, u21, u22, u23, u24, u25, u26, u27, u28, u29, u30, u31, u32, u33, u34, u35, u36, u37, u38, u39, u40, u41, u42, u43, u44, u45, u46, u47, u48, u49, u50, u51, u52, u53, u54, u55, u56, u57, u58, u59, u60, u61, u62, u63, u64, u65, u66, u67, u68, u69, u70, u71, g72, g73, g74, g75, g76, g77, g78, g79, g80, g81, g82, g83, g84, g85, g86, g87, g88, u89, u90, u91, u92, u93, u94, u95, u96, u97, u98, u99, u100, u101, u102, u103, u104, u105, u106, u107, u108, u109, u110, u111, u112, u113, u114, u115, u116], defers := [] }) (RgX w0 B r p d an tl nc (ts ++ [.clo n]) txt ps op ct cl R1)) { tmps := #[.pointer (some ⟨d, 0, none⟩), u1, u2, .int .i64 (n : Int), u4, u5, u6, u7, u8, u9, u10, u11, u12, u13, u14, u15, u16, u17, u18, u19, u20, u21, u22, u23, u24, u25, u26, u27, u28, u29, u30, u31, u32, u33, u34, u35, u36, u37, u38, u39, u40, u41, u42, u43, u44, u45, u46, u47, u48, u49, u50, u51, u52, u53, u54, u55, u56, u57, u58, u59, u60, u61, u62, u63, u64, u65, u66, u67, u68, u69, u70, u71, u72, u73, u74, u75, u76, u77, u78, u79, u80, u81, u82, u83, u84, u85, u86, u87, u88, u89, u90, u91, u92, u93, u94, u95, u96, u97, u98, u99, u100, u101, u102, u103, u104, u105, u106, u107, u108, u109, u110, u111, u112, u113, u114, u115, u116], defers := [] } w := by
  obtain ⟨iu, hiu, hu0, hu1, hu2⟩ := info_parts u8_info
  obtain ⟨ik, hik, ik0, ik1, ik2⟩ := info_parts tok_info
  have H1 := Lib.hid h
  have HCC := Lib.hid hc
  clear h hc
  have ad0 := blk_cell H1.out.dblk 0 _ rfl
  have afd0 := blk_free H1.out.dblk 0
  have ap1 := blk_cell H1.out.pblk 1 _ rfl
  have afp1 := blk_free H1.out.pblk 1
  have n0 : ∀ o, (w.alloc o).cell? ⟨d, 0, none⟩ = some (.pointer (some ⟨p, 0, none⟩)) := fun o => blk_cell (blk_alloc H1.out.dblk o) 0 _ rfl
  have n1 : ∀ o, (w.alloc o).cell? ⟨p, 1, none⟩ = some (.slice (R1 1).ao (R1 1).n (R1 1).cap) := fun o => blk_cell (blk_alloc H1.out.pblk o) 1 _ rfl
  conv => arg 2; whnf
  go_region_law (refine step_append_lies _ (by rfl) _ _ _ (by rfl) B 59 ik _ 8 80 Tryf.underlying32 hik ik0 ik1 ik2 rfl (by decide) (.slice (R1 1).ao (R1 1).n (R1 1).cap) (R1 1).n (R1 1).xs (by rfl) (H1.out.alloc _).drew.own1 ⟨w.heap.size, 0, none⟩ 1 1 [.int .i64 2, .int .i64 0, .int .i64 0, .bool false, .slice none 0 0, .int .u8 0, .int .i64 (n : Int), .int .i64 0] (by rfl) (by rfl) (news_dr (cs := #[.int .i64 2, .int .i64 0, .int .i64 0, .bool false, .slice none 0 0, .int .u8 0, .int .i64 (n : Int), .int .i64 0])) (by simp [Value.oneCell']) (by decide) (by unfold maxLen; omega) (by omega) (Nat.le_trans H1.out.Bw (by simp)) (w.heap.size + 1) (by simp) ?_; intro g1 c1 w8 hown hgrow hat hlt8; have HO := Lib.hid hown; have HGw : Hid (World.grownBy _ w8 (blkOf (R1 1).ao)) := Lib.hid (by rw [ownBlock_slice] at hgrow; exact hgrow); have HAt := Lib.hid (by rw [ownBlock_slice] at hat; exact hat); have hkp := (H1.out.alloc _).drew.pGrown (i := 1) HGw.out; have hkd := (H1.out.alloc _).drew.dGrown (i := 1) HGw.out; have q0 : w8.cell? ⟨d, 0, none⟩ = some (.pointer (some ⟨p, 0, none⟩)) := blk_cell hkd 0 _ rfl; have q1 := blk_cell hkp 1 _ rfl; have q2 := blk_free hkp 1; have q4 := blk_cell hkp 4 _ rfl; clear hown hgrow hat hlt8 hkp hkd)
  all_goals exact ⟨⟨_, _, _, _, _, _, _, _, _, _, _, _, _, _, _, _, _, rfl⟩, ⟨_, (H1.out.alloc _).drew.push1 HO.out HGw.out (HAt.out.imp id (fun h => by rw [h]; simp)) ((H1.out.alloc _).drew.toks.append (.one .clo)), HCC.out.push1 _, rfl, rfl⟩⟩
end Go.Proofs.YtcfhhcjcnafcjaaFmt
