/-
  A region of the reference's search: a capture's places. Its condition: the state lies in memory as told.
-/
import Derived.Test.YtcfhhcjcnafcjaaFmtRfX
namespace Go.Proofs.YtcfhhcjcnafcjaaFmt
open Go.RowKit
set_option linter.unusedVariables false
set_option linter.unusedSimpArgs false

set_option maxRecDepth 100000 in
set_option maxHeartbeats 40000000 in
theorem rf_rg17 {w : World} {B xb mb ca ea nc : Nat} {m0 m1 m4 : Value} {st : St} {a1 : Option Addr} {c1 : Nat} {l1 : List Nat} {a2 : Option Addr} {c2 : Nat} {l2 : List Bool} {k : Nat} {u0 u1 u2 u3 u4 u5 u6 u7 u8 u9 u10 u12 u13 u16 u17 u18 u19 u20 u21 u22 u23 u24 u25 u26 u27 u28 u29 u30 u31 u32 u33 u34 u35 u36 u37 u38 u39 u40 u41 u42 u43 u44 u45 u46 u47 u48 u49 u50 u51 u52 u53 u54 u55 u56 u57 u58 u59 u60 u61 u62 u63 u64 u65 u66 u67 u68 u69 u70 u71 u72 u73 u74 u75 u76 u77 u78 u79 u80 u81 u82 u83 u84 u85 u86 u87 u88 u89 u90 u91 u92 u93 u94 u95 u96 u97 u98 u99 u100 u101 u102 u103 u104 u105 u106 u107 u108 u109 u110 u111 u112 u113 u114 u115 u116 u117 u118 u119 u120 u121 u122 u123 u124 u125 u126 u127 u128 u129 u130 u131 u132 u133 u134 u135 u136 u137 u138 u139 : Value} (h : XS w B xb mb ca ea nc m0 m1 m4 st a1 c1 l1 a2 c2 l2) (hk : k ≤ nc) (hnc : nc ≤ 12) (hl : l1.length ≤ 100) :
    (rfRg 17).wp Tryf.prog (RgPost2 (fun a w' => (∃ g100 g101 g102 g103 g104 g105 g106 g107 g108 g109 g110 g111 g112 g113 g114 g115 g116 g117 g118 : Value, a = { tmps := #[u0, u1, u2, u3, u4, u5, u6, u7, u8, u9, u10, .pointer (some ⟨mb, 0, none⟩), u12, u13, .pointer (some ⟨xb, 0, none⟩), .int .i64 (k : Int), u16, u17, u18, u19, u20, u21, u22, u23, u24, u25, u26, u27, u28, u29, u30, u31, u32, u33, u34, u35, u36, u37, u38, u39, u40, u41, u42, u43, u44, u45, u46, u47, u48, u49, u50, u51, u52, u53, u54, u55, u56, u57, u58, u59, u60, u61, u62, u63, u64, u65, u66, u67, u68, u69, u70, u71, u72, u73, u74, u75, u76, u77, u78, u79, u80, u81, u82, u83, u84, u85, u86, u87, u88, u89, u90, u91, u92, u93, u94, u95, u96, u97, u98, u99, g100, g101, g102, g103, g104, g105, g106, g107, g108, g109, g110, g111, g112, g113, g114, g115, g116, g117, g118, u119, u120, u121, u122, u123, u124, u125, u126, u127, u128, u129, u130, u131, u132, u133, u134, u135, u136, u137, u138, u139], defers := [] }) ∧ Below B w w' ∧ ∃ a1' c1', XS w' B xb mb ca ea nc m0 m1 m4 st a1' c1' (l1 ++ [st.1.getD k 0, st.2.getD k 0]) a2 c2 l2)) { tmps := #[u0, u1, u2, u3, u4, u5, u6, u7, u8, u9, u10, .pointer (some ⟨mb, 0, none⟩), u12, u13, .pointer (some ⟨xb, 0, none⟩), .int .i64 (k : Int), u16, u17, u18, u19, u20, u21, u22, u23, u24, u25, u26, u27, u28, u29, u30, u31, u32, u33, u34, u35, u36, u37, u38, u39, u40, u41, u42, u43, u44, u45, u46, u47, u48, u49, u50, u51, u52, u53, u54, u55, u56, u57, u58, u59, u60, u61, u62, u63, u64, u65, u66, u67, u68, u69, u70, u71, u72, u73, u74, u75, u76, u77, u78, u79, u80, u81, u82, u83, u84, u85, u86, u87, u88, u89, u90, u91, u92, u93, u94, u95, u96, u97, u98, u99, u100, u101, u102, u103, u104, u105, u106, u107, u108, u109, u110, u111, u112, u113, u114, u115, u116, u117, u118, u119, u120, u121, u122, u123, u124, u125, u126, u127, u128, u129, u130, u131, u132, u133, u134, u135, u136, u137, u138, u139], defers := [] } w := by
  obtain ⟨ii, hii, hi0, hi1, hi2⟩ := info_parts int_info
  have H := Lib.hid h
  have HBw := h.Bw
  have hkn : k < nc + 1 := by omega
  have ax0 := blk_cell h.x 0 _ rfl
  have am2 := blk_cell h.m 2 _ rfl
  have am3 := blk_cell h.m 3 _ rfl
  have ack := h.cs hkn
  have aek := h.es hkn
  have n0 : ∀ o, (w.alloc o).cell? ⟨xb, 0, none⟩ = some (.slice a1 l1.length c1) := fun o => blk_cell (blk_alloc H.out.x o) 0 _ rfl
  have n2 : ∀ o, (w.alloc o).cell? ⟨mb, 2, none⟩ = some (.slice (some ⟨ca, 0, none⟩) (nc + 1) (nc + 1)) := fun o => blk_cell (blk_alloc H.out.m o) 2 _ rfl
  have n3 : ∀ o, (w.alloc o).cell? ⟨mb, 3, none⟩ = some (.slice (some ⟨ea, 0, none⟩) (nc + 1) (nc + 1)) := fun o => blk_cell (blk_alloc H.out.m o) 3 _ rfl
  have nck : ∀ o, (w.alloc o).cell? ⟨ca, k, none⟩ = some (.int .i64 ((st.1.getD k 0 : Nat) : Int)) := fun o => (H.out.alloc o).cs (by omega)
  have nek : ∀ o, (w.alloc o).cell? ⟨ea, k, none⟩ = some (.int .i64 ((st.2.getD k 0 : Nat) : Int)) := fun o => (H.out.alloc o).es (by omega)
  have hki : (k : Int) < (nc : Int) + 1 := by omega
  have hki2 : (k : Int) < ((nc + 1 : Nat) : Int) := by omega
  obtain ⟨n1, hn1⟩ : ∃ n, l1.length = n := ⟨_, rfl⟩
  obtain ⟨xs1, hxs1⟩ : ∃ x, ints l1 = x := ⟨_, rfl⟩
  obtain ⟨v1, hv1⟩ : ∃ v, ((st.1.getD k 0 : Nat) : Int) = v := ⟨_, rfl⟩
  obtain ⟨v2, hv2⟩ : ∃ v, ((st.2.getD k 0 : Nat) : Int) = v := ⟨_, rfl⟩
  have HOA : Hid (∀ o : Obj, (w.alloc o).drew.ownsRow B 3 1 (.slice a1 n1 c1) n1 xs1) := Lib.hid (fun o => by rw [← hn1, ← hxs1]; exact (H.out.alloc o).drew.o1)
  have HXG : Hid (∀ o : Obj, ∀ {w8 : World}, (w.alloc o).drew.grownBy w8 (blkOf a1) → w8.heap[xb]? = some (.cells #[.slice a1 n1 c1, .slice a2 l2.length c2] 39 (0, 0))) := Lib.hid (fun o w8 hg => by rw [← hn1]; exact (H.out.alloc o).drew.xGrown (.inl hg))
  have HN1 := Lib.hid hn1
  have HX1 := Lib.hid hxs1
  have HV1 := Lib.hid hv1
  have HV2 := Lib.hid hv2
  rw [hn1] at ax0 n0 hl
  rw [hv1] at ack nck; rw [hv2] at aek nek
  
  clear h hn1 hxs1 hv1 hv2
  conv => arg 2; whnf
  go_region_law (refine step_append_lies _ (by rfl) _ _ _ (by rfl) B 3 ii (.int .i64 0) 1 8 Tryf.underlying37 hii hi0 hi1 hi2 rfl (by decide) (.slice a1 n1 c1) n1 xs1 (by rfl) (HOA.out _) ⟨w.heap.size, 0, none⟩ 2 2 [.int .i64 v1, .int .i64 v2] (by rfl) (by rfl) (news_dr (cs := #[.int .i64 v1, .int .i64 v2])) (by simp [Value.oneCell']) (by decide) (by unfold maxLen; omega) (by omega) (Nat.le_trans HBw (by simp)) (w.heap.size + 1) (by simp) ?_; intro g1 k1 w8 hown hgrow hat hlt8; have HO := Lib.hid hown; have HGw : Hid (World.grownBy _ w8 (blkOf a1)) := Lib.hid (by rw [ownBlock_slice] at hgrow; exact hgrow); have HAt := Lib.hid (by rw [ownBlock_slice] at hat; exact hat); have hx8 := HXG.out _ HGw.out; have q1 := blk_cell hx8 0 _ rfl; have q2 := blk_free hx8 0; clear hown hgrow hat hlt8 hx8)
  all_goals exact ⟨⟨_, _, _, _, _, _, _, _, _, _, _, _, _, _, _, _, _, _, _, rfl⟩, rf_fin H.out HN1 HX1 HV1 HV2 HO HGw HAt⟩
end Go.Proofs.YtcfhhcjcnafcjaaFmt
