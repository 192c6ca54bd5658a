/-
  A case of the switch in the decoder's loop: a class. Conditions as each statement says.
-/
import Derived.Test.YtcfhhcjcnafcjaaFmtCloseAll
namespace Go.Proofs.YtcfhhcjcnafcjaaFmt
open Go.RowKit
set_option linter.unusedVariables false
set_option linter.unusedSimpArgs false


set_option maxRecDepth 1000000 in
set_option maxHeartbeats 40000000 in
theorem sw_cl2 {w0 wr : World} {B r p d nc ub ub' ob' it : Nat} {an tl : Bool} {R : Fin 6 → Rw} {ts : List Tk} {txt : List Int} {ps : List Bool} {op ct cl : List Nat} {Q : Exit → Act → World → Prop}
    (hS : DecS w0 wr B r p d an tl nc R ts) (hC : Cont R txt ps op (bumpL ct) cl) (hW : DWf an nc ts txt ps op ct cl ub it) (hit : it < 4096)
    (hN : ∀ a' w', DFr r p d a' → DRel w0 B r p d an tl w' (it + 1) a' → Q .normal a' w')
    {c : CK} {q xa xb : Int} {xn : Bool} {xao tao : Option Addr} {xl xcap tcap qb : Nat} (hq : q ∈ quants) (hub : ub' = ub + unb [.cls c q]) (hub2 : ub' ≤ 2) (hob : ob' ≤ 2) (hok : c.ok) (hck : CkAt wr B c [.int .i64 xa, .int .i64 xb, .bool xn, .slice xao xl xcap])
    (hqb : wr.heap[qb]? = some (.cells #[.int .i64 xa, .int .i64 xb, .bool xn, .slice xao xl xcap] 57 (0, 0))) (htr : wr.ownsRow B 5 1 (.slice tao c.txt.length tcap) c.txt.length (u8s c.txt)) (f : Nat → Value) :
    decTail2.wp Tryf.prog Q { tmps := #[f 0, f 1, f 2, f 3, f 4, .pointer (some ⟨r, 0, none⟩), .pointer (some ⟨p, 0, none⟩), .pointer (some ⟨d, 0, none⟩), f 8, .int .i64 (ub' : Int), .int .i64 (ob' : Int), .int .i64 ((it + 1 : Nat) : Int), f 12, f 13, f 14, f 15, f 16, f 17, f 18, f 19, f 20, f 21, .pointer (some ⟨qb, 0, none⟩), .slice tao c.txt.length tcap, .int .u8 q, f 25, f 26, f 27, f 28, f 29, f 30, f 31, f 32, f 33, f 34, f 35, f 36, f 37, f 38, f 39, f 40, f 41, f 42, f 43, f 44, f 45, f 46, f 47, f 48, f 49, f 50, f 51, f 52, f 53, f 54, f 55, f 56, f 57, f 58, f 59, f 60, f 61, f 62, f 63, f 64, f 65, f 66, f 67, f 68, f 69, f 70, f 71, f 72, f 73, f 74, f 75, f 76, f 77, f 78, f 79, f 80, f 81, f 82, f 83, f 84, f 85, f 86, f 87, f 88, f 89, f 90, f 91, f 92, f 93, f 94, f 95, f 96, f 97, f 98, f 99, f 100, f 101, f 102, f 103, f 104, f 105, f 106, f 107, f 108, f 109, f 110, f 111, f 112, f 113, f 114, f 115, f 116, f 117, f 118, f 119, f 120, f 121, f 122, f 123, f 124, f 125, f 126, f 127, f 128, f 129, f 130, f 131, f 132, f 133, f 134, f 135, f 136, f 137, f 138, f 139, f 140, f 141, f 142, f 143, f 144, f 145, f 146, f 147, f 148, f 149, f 150, f 151, f 152, f 153, f 154, f 155, f 156, f 157, f 158, f 159, f 160, f 161, f 162, f 163, f 164, f 165, f 166, f 167, f 168, f 169, f 170, f 171, f 172, f 173, f 174, f 175, f 176, f 177, f 178, f 179, f 180, f 181, f 182, f 183, f 184, f 185, f 186, f 187, f 188, f 189, f 190, f 191, f 192, f 193, f 194, f 195, f 196, f 197, f 198, f 199, f 200, f 201, f 202, f 203, f 204, f 205, f 206, f 207, f 208, f 209, f 210, f 211, f 212, f 213, f 214, f 215, f 216, f 217, f 218, f 219, f 220, f 221, f 222, f 223, f 224, f 225, f 226, f 227, f 228, f 229, f 230, f 231, f 232, f 233, f 234, f 235, f 236, f 237, f 238, f 239, f 240, f 241, f 242, f 243, f 244, f 245, f 246, f 247, f 248, f 249, f 250, f 251, f 252, f 253, f 254, f 255, f 256, f 257, f 258, f 259, f 260, f 261, f 262, f 263, f 264, f 265, f 266, f 267, f 268, f 269, f 270, f 271, f 272, f 273, f 274, f 275, f 276, f 277, f 278, f 279, f 280, f 281, f 282, f 283, f 284, f 285, f 286, f 287, f 288, f 289, f 290, f 291, f 292, f 293, f 294, f 295, f 296, f 297, f 298, f 299, f 300, f 301, f 302, f 303, f 304, f 305, f 306, f 307, f 308, f 309, f 310, f 311, f 312, f 313, f 314, f 315, f 316, f 317, f 318, f 319, f 320, f 321, f 322, f 323, f 324, f 325, f 326, f 327, f 328, f 329, f 330, f 331, f 332, f 333, f 334, f 335, f 336, f 337, f 338, f 339, f 340, f 341, f 342, f 343, f 344, f 345, f 346, f 347, f 348, f 349, f 350, f 351, f 352, f 353, f 354, f 355, f 356, f 357, f 358, f 359, f 360, f 361, f 362, f 363, f 364, f 365, f 366, f 367, f 368, f 369, f 370, f 371, f 372, f 373, f 374, f 375, f 376, f 377, f 378, f 379, f 380, f 381, f 382, f 383, f 384, f 385, f 386, f 387, f 388, f 389, f 390, f 391, f 392, f 393, f 394, f 395, f 396, f 397, f 398, f 399, f 400, f 401, f 402, f 403, f 404, f 405, f 406, f 407], defers := [] } wr := by
  obtain ⟨iu, hiu, hu0, hu1, hu2⟩ := info_parts u8_info
  obtain ⟨ik, hik, ik0, ik1, ik2⟩ := info_parts tok_info
  obtain ⟨m, hm⟩ : ∃ m, c.txt.length = m := ⟨_, rfl⟩
  have hm0 : 0 < m := by rw [← hm]; exact ctxt_pos c
  have hm15 : m ≤ 15 := by rw [← hm]; exact ctxt_le hok
  rw [hm] at htr
  obtain ⟨tg, rfl⟩ := row_some htr hm0
  have HTC : Hid (∀ (j : Nat) (u : Value), (u8s c.txt)[j]? = some u → wr.cell? ((⟨tg, 0, none⟩ : Addr).add j) = some u) := Lib.hid (fun j u hj => by
    rw [addr_add, Nat.zero_add]
    have hlt := (List.getElem?_eq_some_iff.1 hj).1
    rw [show (u8s c.txt).length = m by simp [u8s, hm]] at hlt
    exact (htr.cellAt j (by omega)).trans hj)
  have hqb256 : 0 ≤ q ∧ q ≤ 255 := by simp only [quants, List.mem_cons, List.not_mem_nil, or_false] at hq; omega
  have hW1 := hW.ltx
  have hW2 := hW.lts
  have hW3 := hW.nc12
  have hW4 := hW.op3
  have hW5 := hW.cll
  have hW6 := hW.ctl
  have hW8 := hW.psl
  have HN := Lib.hid hN
  have HW := Lib.hid hW
  have H := Lib.hid hS
  have HC := Lib.hid hC
  have HQ := Lib.hid hq
  have HUB := Lib.hid hub
  have HOK := Lib.hid hok
  have HCK := Lib.hid hck
  have HQB := Lib.hid hqb
  have HM := Lib.hid hm
  clear hN hW hS hC hq hub hok hck hqb htr hm
  rw [HM.out]
  have hn0 : (R 0).n ≤ 100000 := by rw [HC.out.tn]; first | omega | (rw [bumpL_len]; omega) | (simp [bumpL_len]; omega)
  have hn1 : (R 1).n ≤ 100000 := by rw [H.out.tn]; first | omega | (rw [bumpL_len]; omega) | (simp [bumpL_len]; omega)
  have hn2 : (R 2).n ≤ 100000 := by rw [HC.out.pn]; first | omega | (rw [bumpL_len]; omega) | (simp [bumpL_len]; omega)
  have hn3 : (R 3).n ≤ 100000 := by rw [HC.out.on]; first | omega | (rw [bumpL_len]; omega) | (simp [bumpL_len]; omega)
  have hn4 : (R 4).n ≤ 100000 := by rw [HC.out.cn]; first | omega | (rw [bumpL_len]; omega) | (simp [bumpL_len]; omega)
  have hn5 : (R 5).n ≤ 100000 := by rw [HC.out.ln]; first | omega | (rw [bumpL_len]; omega) | (simp [bumpL_len]; omega)
  conv => arg 2; whnf
  refine wp_mono (Q := NQ (fun a' w' => Q .normal a' w')) ?_ (fun e a' w' h => by cases e <;> first | exact h | exact h.elim)
  have ap0 := blk_cell H.out.pblk 0 _ rfl
  have afp0 := blk_free H.out.pblk 0
  go_upto_region 55 with (at_builtin; go_loud (refine wpList_push _ rfl (.tmp 173) (.tmp 174) 22 rfl B 5 iu (.int .u8 0) 1 1 Tryf.underlying22 hiu hu0 hu1 hu2 rfl (by decide) _ _ _ _ rfl H.out.own0 ⟨tg, 0, none⟩ m tcap (u8s c.txt) rfl (by simp [u8s, HM.out]) HTC.out (by simp [u8s, Value.oneCell']) hm0 (by unfold maxLen; omega) (by omega) H.out.Bw ?_; intro g1 c1 w8 hown hgrow hwhere; have HO := Lib.hid hown; have HGw := Lib.hid hgrow; have HWh := Lib.hid hwhere; have hk8 := H.out.pGrown (i := 0) HGw.out; have kc8 := blk_cell hk8 0 _ rfl; have fc8 := blk_free hk8 0; clear hown hgrow hwhere hk8))
  have H1 := Lib.hid (H.out.push0 HO.out HGw.out HWh.out)
  have HC1 := Lib.hid (HC.out.push0x (some ⟨g1, 0, none⟩) c1 m c.txt HM.out ((R 0).xs ++ u8s c.txt) rfl)
  have HQB1 := Lib.hid ((H.out.push0_keep HGw.out (.slice (some ⟨g1, 0, none⟩) ((R 0).n + m) c1) HQB.out (by decide) (by decide)).trans HQB.out)
  have HCK1 := Lib.hid (HCK.out.kept (fun g cs q _ h1 => (H.out.push0_keep HGw.out (.slice (some ⟨g1, 0, none⟩) ((R 0).n + m) c1) h1 (by decide) (by decide)).trans h1))
  generalize hw9 : World.setCell w8 _ _ = w1 at *
  generalize hR9 : upd R _ _ = R1 at H1 HC1
  clear hw9 hR9 HO HGw HWh kc8 fc8 ap0 afp0 H HC HQB HCK HTC
  clear hn0 hn1 hn2 hn3 hn4 hn5
  have hn0 : (R1 0).n ≤ 100000 := by rw [HC1.out.tn]; first | omega | (rw [List.length_append, HM.out]; omega) | (rw [bumpL_len]; omega) | (simp [bumpL_len]; omega)
  have hn1 : (R1 1).n ≤ 100000 := by rw [H1.out.tn]; first | omega | (rw [List.length_append, HM.out]; omega) | (rw [bumpL_len]; omega) | (simp [bumpL_len]; omega)
  have hn2 : (R1 2).n ≤ 100000 := by rw [HC1.out.pn]; first | omega | (rw [List.length_append, HM.out]; omega) | (rw [bumpL_len]; omega) | (simp [bumpL_len]; omega)
  have hn3 : (R1 3).n ≤ 100000 := by rw [HC1.out.on]; first | omega | (rw [List.length_append, HM.out]; omega) | (rw [bumpL_len]; omega) | (simp [bumpL_len]; omega)
  have hn4 : (R1 4).n ≤ 100000 := by rw [HC1.out.cn]; first | omega | (rw [List.length_append, HM.out]; omega) | (rw [bumpL_len]; omega) | (simp [bumpL_len]; omega)
  have hn5 : (R1 5).n ≤ 100000 := by rw [HC1.out.ln]; first | omega | (rw [List.length_append, HM.out]; omega) | (rw [bumpL_len]; omega) | (simp [bumpL_len]; omega)
  by_cases hq0 : q = 0
  · subst hq0
    go_upto_region 57 with (fail)
    have ap1 := blk_cell H1.out.pblk 1 _ rfl
    have afp1 := blk_free H1.out.pblk 1
    have ap4 := blk_cell H1.out.pblk 4 _ rfl
    have afp4 := blk_free H1.out.pblk 4
    have kq0 := blk_cell HQB1.out 0 _ rfl
    have kq1 := blk_cell HQB1.out 1 _ rfl
    have kq2 := blk_cell HQB1.out 2 _ rfl
    have kq3 := blk_cell HQB1.out 3 _ rfl
    have nq0 : ∀ o, (w1.alloc o).cell? ⟨qb, 0, none⟩ = some (.int .i64 xa) := fun o => blk_cell (blk_alloc HQB1.out o) 0 _ rfl
    have n1 : ∀ o, (w1.alloc o).cell? ⟨p, 1, none⟩ = some (.slice (R1 1).ao (R1 1).n (R1 1).cap) := fun o => blk_cell (blk_alloc H1.out.pblk o) 1 _ rfl
    go_upto_region 57 with (fail)
    go_region_law (refine step_append_lies _ (by rfl) _ _ _ (by rfl) B 59 ik _ 8 80 Tryf.underlying32 hik ik0 ik1 ik2 rfl (by decide) (.slice (R1 1).ao (R1 1).n (R1 1).cap) (R1 1).n (R1 1).xs (by rfl) (H1.out.alloc _).drew.own1 ⟨w1.heap.size, 0, none⟩ 1 1 [.int .i64 0, .int .i64 xa, .int .i64 xb, .bool xn, .slice xao xl xcap, .int .u8 0, .int .i64 0, .int .i64 0] (by rfl) (by rfl) (news_dr (cs := #[.int .i64 0, .int .i64 xa, .int .i64 xb, .bool xn, .slice xao xl xcap, .int .u8 0, .int .i64 0, .int .i64 0])) (by simp [Value.oneCell']) (by decide) (by unfold maxLen; omega) (by omega) (Nat.le_trans H1.out.Bw (by simp)) (w1.heap.size + 1) (by simp) ?_; intro g1 c1 w8 hown hgrow hat hlt8; have HO := Lib.hid hown; have HGw : Hid (World.grownBy _ w8 (blkOf (R1 1).ao)) := Lib.hid (by rw [ownBlock_slice] at hgrow; exact hgrow); have HAt := Lib.hid (by rw [ownBlock_slice] at hat; exact hat); have hkp := (H1.out.alloc _).drew.pGrown (i := 1) HGw.out; have hkd := (H1.out.alloc _).drew.dGrown (i := 1) HGw.out; have q0 : w8.cell? ⟨d, 0, none⟩ = some (.pointer (some ⟨p, 0, none⟩)) := blk_cell hkd 0 _ rfl; have q1 := blk_cell hkp 1 _ rfl; have q2 := blk_free hkp 1; have q4 := blk_cell hkp 4 _ rfl; clear hown hgrow hat hlt8 hkp hkd)
    all_goals
      go_wp2_with fail
      have H2 := Lib.hid ((H1.out.alloc _).drew.push1 HO.out HGw.out (HAt.out.imp id (fun h => by rw [h]; simp)) ((H1.out.alloc _).drew.toks.append (.one (.cls (HCK1.out.kept (fun _ _ _ _ h => blk_drew (blk_alloc h _)))))))
      have HC2 := Lib.hid (HC1.out.push1 ⟨some ⟨g1, 0, none⟩, c1, (R1 1).n + 1, (R1 1).xs ++ [.int .i64 0, .int .i64 xa, .int .i64 xb, .bool xn, .slice xao xl xcap, .int .u8 0, .int .i64 0, .int .i64 0]⟩)
      exact HN.out _ _ ⟨rfl, rfl, rfl, rfl, rfl⟩ (drel_mk (nc := nc) (ub := ub') (ob := ob') rfl rfl rfl H2.out HC2.out (by have h := HW.out.add (t := .cls c 0) (.cls HOK.out HQ.out .nil) rfl (fun n e => by cases e) rfl (by simp [Tk.txt, qtxt, HM.out]; omega) HUB.out hub2; simpa [Tk.txt, qtxt] using h) (by omega) hob)
  · have tq : (q == 0) = false := by rw [beq_eq_false_iff_ne]; exact hq0
    have tq2 : ((q : Int) == 0) = false := tq
    have ap0 := blk_cell H1.out.pblk 0 _ rfl
    have afp0 := blk_free H1.out.pblk 0
    go_upto_region 57 with (at_builtin; go_loud (refine wpList_push _ rfl (.tmp 184) (.tmp 186) 22 rfl B 5 iu (.int .u8 0) 1 1 Tryf.underlying22 hiu hu0 hu1 hu2 rfl (by decide) _ _ _ _ rfl (H1.out.own0.alloc _) ⟨w1.heap.size, 0, none⟩ 1 1 [.int .u8 q] rfl rfl (news_any (by simp)) (by simp [Value.oneCell']) (by decide) (by unfold maxLen; omega) (by omega) (Nat.le_trans H1.out.Bw (by simp)) ?_; intro g1 c1 w8 hown hgrow hwhere; have HO := Lib.hid hown; have HGw := Lib.hid hgrow; have HWh := Lib.hid hwhere; have hk8 := (H1.out.alloc _).pGrown (i := 0) HGw.out; have kc8 := blk_cell hk8 0 _ rfl; have fc8 := blk_free hk8 0; clear hown hgrow hwhere hk8))
    have H2 := Lib.hid ((H1.out.alloc _).push0 HO.out HGw.out HWh.out)
    have HC2 := Lib.hid (HC1.out.push0x (some ⟨g1, 0, none⟩) c1 1 [q] rfl ((R1 0).xs ++ [.int .u8 q]) rfl)
    have HQB2 := Lib.hid (((H1.out.alloc _).push0_keep HGw.out (.slice (some ⟨g1, 0, none⟩) ((R1 0).n + 1) c1) (blk_alloc HQB1.out _) (by decide) (by decide)).trans (blk_alloc HQB1.out _))
    have HCK2 := Lib.hid (HCK1.out.kept (fun g cs q _ h1 => ((H1.out.alloc _).push0_keep HGw.out (.slice (some ⟨g1, 0, none⟩) ((R1 0).n + 1) c1) (blk_alloc h1 _) (by decide) (by decide)).trans (blk_alloc h1 _)))
    generalize hw9 : World.setCell w8 _ _ = w2 at *
    generalize hR9 : upd R1 _ _ = R2 at H2 HC2
    clear hw9 hR9 HO HGw HWh kc8 fc8 ap0 afp0 H1 HC1 HQB1 HCK1
    clear hn0 hn1 hn2 hn3 hn4 hn5
    have hn0 : (R2 0).n ≤ 100000 := by rw [HC2.out.tn]; first | omega | (rw [List.length_append, List.length_append, HM.out, List.length_singleton]; omega) | (rw [bumpL_len]; omega) | (simp [bumpL_len]; omega)
    have hn1 : (R2 1).n ≤ 100000 := by rw [H2.out.tn]; first | omega | (rw [List.length_append, List.length_append, HM.out, List.length_singleton]; omega) | (rw [bumpL_len]; omega) | (simp [bumpL_len]; omega)
    have hn2 : (R2 2).n ≤ 100000 := by rw [HC2.out.pn]; first | omega | (rw [List.length_append, List.length_append, HM.out, List.length_singleton]; omega) | (rw [bumpL_len]; omega) | (simp [bumpL_len]; omega)
    have hn3 : (R2 3).n ≤ 100000 := by rw [HC2.out.on]; first | omega | (rw [List.length_append, List.length_append, HM.out, List.length_singleton]; omega) | (rw [bumpL_len]; omega) | (simp [bumpL_len]; omega)
    have hn4 : (R2 4).n ≤ 100000 := by rw [HC2.out.cn]; first | omega | (rw [List.length_append, List.length_append, HM.out, List.length_singleton]; omega) | (rw [bumpL_len]; omega) | (simp [bumpL_len]; omega)
    have hn5 : (R2 5).n ≤ 100000 := by rw [HC2.out.ln]; first | omega | (rw [List.length_append, List.length_append, HM.out, List.length_singleton]; omega) | (rw [bumpL_len]; omega) | (simp [bumpL_len]; omega)
    have ap1 := blk_cell H2.out.pblk 1 _ rfl
    have afp1 := blk_free H2.out.pblk 1
    have ap4 := blk_cell H2.out.pblk 4 _ rfl
    have afp4 := blk_free H2.out.pblk 4
    have kq0 := blk_cell HQB2.out 0 _ rfl
    have kq1 := blk_cell HQB2.out 1 _ rfl
    have kq2 := blk_cell HQB2.out 2 _ rfl
    have kq3 := blk_cell HQB2.out 3 _ rfl
    have nq0 : ∀ o, (w2.alloc o).cell? ⟨qb, 0, none⟩ = some (.int .i64 xa) := fun o => blk_cell (blk_alloc HQB2.out o) 0 _ rfl
    have n1 : ∀ o, (w2.alloc o).cell? ⟨p, 1, none⟩ = some (.slice (R2 1).ao (R2 1).n (R2 1).cap) := fun o => blk_cell (blk_alloc H2.out.pblk o) 1 _ rfl
    go_upto_region 57 with (fail)
    go_region_law (refine step_append_lies _ (by rfl) _ _ _ (by rfl) B 59 ik _ 8 80 Tryf.underlying32 hik ik0 ik1 ik2 rfl (by decide) (.slice (R2 1).ao (R2 1).n (R2 1).cap) (R2 1).n (R2 1).xs (by rfl) (H2.out.alloc _).drew.own1 ⟨w2.heap.size, 0, none⟩ 1 1 [.int .i64 0, .int .i64 xa, .int .i64 xb, .bool xn, .slice xao xl xcap, .int .u8 q, .int .i64 0, .int .i64 0] (by rfl) (by rfl) (news_dr (cs := #[.int .i64 0, .int .i64 xa, .int .i64 xb, .bool xn, .slice xao xl xcap, .int .u8 q, .int .i64 0, .int .i64 0])) (by simp [Value.oneCell']) (by decide) (by unfold maxLen; omega) (by omega) (Nat.le_trans H2.out.Bw (by simp)) (w2.heap.size + 1) (by simp) ?_; intro g1 c1 w8 hown hgrow hat hlt8; have HO := Lib.hid hown; have HGw : Hid (World.grownBy _ w8 (blkOf (R2 1).ao)) := Lib.hid (by rw [ownBlock_slice] at hgrow; exact hgrow); have HAt := Lib.hid (by rw [ownBlock_slice] at hat; exact hat); have hkp := (H2.out.alloc _).drew.pGrown (i := 1) HGw.out; have hkd := (H2.out.alloc _).drew.dGrown (i := 1) HGw.out; have q0 : w8.cell? ⟨d, 0, none⟩ = some (.pointer (some ⟨p, 0, none⟩)) := blk_cell hkd 0 _ rfl; have q1 := blk_cell hkp 1 _ rfl; have q2 := blk_free hkp 1; have q4 := blk_cell hkp 4 _ rfl; clear hown hgrow hat hlt8 hkp hkd)
    all_goals
      go_wp2_with fail
      have H3 := Lib.hid ((H2.out.alloc _).drew.push1 HO.out HGw.out (HAt.out.imp id (fun h => by rw [h]; simp)) ((H2.out.alloc _).drew.toks.append (.one (.cls (HCK2.out.kept (fun _ _ _ _ h => blk_drew (blk_alloc h _)))))))
      have HC3 := Lib.hid (HC2.out.push1 ⟨some ⟨g1, 0, none⟩, c1, (R2 1).n + 1, (R2 1).xs ++ [.int .i64 0, .int .i64 xa, .int .i64 xb, .bool xn, .slice xao xl xcap, .int .u8 q, .int .i64 0, .int .i64 0]⟩)
      exact HN.out _ _ ⟨rfl, rfl, rfl, rfl, rfl⟩ (drel_mk (nc := nc) (ub := ub') (ob := ob') rfl rfl rfl H3.out HC3.out (by have h := HW.out.add (t := .cls c q) (.cls HOK.out HQ.out .nil) rfl (fun n e => by cases e) (tt := c.txt ++ [q]) (by simp [Tk.txt, qtxt, hq0]) (by simp [Tk.txt, qtxt, hq0, HM.out]; omega) HUB.out hub2; simpa [List.append_assoc] using h) (by omega) hob)
theorem sw_cl2_at {w0 wr : World} {B r p d nc ub ub' ob' it : Nat} {an tl : Bool} {R : Fin 6 → Rw} {ts : List Tk} {txt : List Int} {ps : List Bool} {op ct cl : List Nat} {Q : Exit → Act → World → Prop}
    (hS : DecS w0 wr B r p d an tl nc R ts) (hC : Cont R txt ps op (bumpL ct) cl) (hW : DWf an nc ts txt ps op ct cl ub it) (hit : it < 4096)
    (hN : ∀ a' w', DFr r p d a' → DRel w0 B r p d an tl w' (it + 1) a' → Q .normal a' w')
    {c : CK} {q xa xb : Int} {xn : Bool} {xao tao : Option Addr} {xl xcap tcap qb : Nat} (hq : q ∈ quants) (hub : ub' = ub + unb [.cls c q]) (hub2 : ub' ≤ 2) (hob : ob' ≤ 2) (hok : c.ok) (hck : CkAt wr B c [.int .i64 xa, .int .i64 xb, .bool xn, .slice xao xl xcap])
    (hqb : wr.heap[qb]? = some (.cells #[.int .i64 xa, .int .i64 xb, .bool xn, .slice xao xl xcap] 57 (0, 0))) (htr : wr.ownsRow B 5 1 (.slice tao c.txt.length tcap) c.txt.length (u8s c.txt)) {a : Act} (hdf : a.defers = []) (hsz : a.tmps.size = 408) (h5 : a.tmps[5]? = some (.pointer (some ⟨r, 0, none⟩))) (h6 : a.tmps[6]? = some (.pointer (some ⟨p, 0, none⟩))) (h7 : a.tmps[7]? = some (.pointer (some ⟨d, 0, none⟩))) (h9 : a.tmps[9]? = some (.int .i64 (ub' : Int))) (h10 : a.tmps[10]? = some (.int .i64 (ob' : Int))) (h11 : a.tmps[11]? = some (.int .i64 ((it + 1 : Nat) : Int))) (h22 : a.tmps[22]? = some (.pointer (some ⟨qb, 0, none⟩))) (h23 : a.tmps[23]? = some (.slice tao c.txt.length tcap)) (h24 : a.tmps[24]? = some (.int .u8 q)) : decTail2.wp Tryf.prog Q a wr := by
  obtain ⟨f, hfr⟩ := dframe_litB a.tmps hsz h5 h6 h7 h9 h10 h11 h22 h23 h24
  rw [dact_is hdf, hfr]
  exact sw_cl2 hS hC hW hit hN hq hub hub2 hob hok hck hqb htr f


set_option maxRecDepth 1000000 in
set_option maxHeartbeats 40000000 in
theorem sw_cls {w0 wr : World} {B r p d nc ub ob it : Nat} {an tl : Bool} {R : Fin 6 → Rw} {ts : List Tk} {txt : List Int} {ps : List Bool} {op ct cl : List Nat} {Q : Exit → Act → World → Prop}
    (hS : DecS w0 wr B r p d an tl nc R ts) (hC : Cont R txt ps op ct cl) (hW : DWf an nc ts txt ps op ct cl ub it) (hit : it < 4096) (hob : ob ≤ 2)
    (hN : ∀ a' w', DFr r p d a' → DRel w0 B r p d an tl w' (it + 1) a' → Q .normal a' w') {o arg : Nat} (v15 : Value) (ho : o < 3) (harg : arg ≤ 31) (f : Nat → Value) :
    decTail.wp Tryf.prog Q { tmps := #[f 0, f 1, f 2, f 3, f 4, .pointer (some ⟨r, 0, none⟩), .pointer (some ⟨p, 0, none⟩), .pointer (some ⟨d, 0, none⟩), f 8, .int .i64 (ub : Int), .int .i64 (ob : Int), .int .i64 ((it + 1 : Nat) : Int), f 12, .int .i64 (o : Int), .int .i64 (arg : Int), v15, f 16, f 17, f 18, f 19, f 20, f 21, f 22, f 23, f 24, f 25, f 26, f 27, f 28, f 29, f 30, f 31, f 32, f 33, f 34, f 35, f 36, f 37, f 38, f 39, f 40, f 41, f 42, f 43, f 44, f 45, f 46, f 47, f 48, f 49, f 50, f 51, f 52, f 53, f 54, f 55, f 56, f 57, f 58, f 59, f 60, f 61, f 62, f 63, f 64, f 65, f 66, f 67, f 68, f 69, f 70, f 71, f 72, f 73, f 74, f 75, f 76, f 77, f 78, f 79, f 80, f 81, f 82, f 83, f 84, f 85, f 86, f 87, f 88, f 89, f 90, f 91, f 92, f 93, f 94, f 95, f 96, f 97, f 98, f 99, f 100, f 101, f 102, f 103, f 104, f 105, f 106, f 107, f 108, f 109, f 110, f 111, f 112, f 113, f 114, f 115, f 116, f 117, f 118, f 119, f 120, f 121, f 122, f 123, f 124, f 125, f 126, f 127, f 128, f 129, f 130, f 131, f 132, f 133, f 134, f 135, f 136, f 137, f 138, f 139, f 140, f 141, f 142, f 143, f 144, f 145, f 146, f 147, f 148, f 149, f 150, f 151, f 152, f 153, f 154, f 155, f 156, f 157, f 158, f 159, f 160, f 161, f 162, f 163, f 164, f 165, f 166, f 167, f 168, f 169, f 170, f 171, f 172, f 173, f 174, f 175, f 176, f 177, f 178, f 179, f 180, f 181, f 182, f 183, f 184, f 185, f 186, f 187, f 188, f 189, f 190, f 191, f 192, f 193, f 194, f 195, f 196, f 197, f 198, f 199, f 200, f 201, f 202, f 203, f 204, f 205, f 206, f 207, f 208, f 209, f 210, f 211, f 212, f 213, f 214, f 215, f 216, f 217, f 218, f 219, f 220, f 221, f 222, f 223, f 224, f 225, f 226, f 227, f 228, f 229, f 230, f 231, f 232, f 233, f 234, f 235, f 236, f 237, f 238, f 239, f 240, f 241, f 242, f 243, f 244, f 245, f 246, f 247, f 248, f 249, f 250, f 251, f 252, f 253, f 254, f 255, f 256, f 257, f 258, f 259, f 260, f 261, f 262, f 263, f 264, f 265, f 266, f 267, f 268, f 269, f 270, f 271, f 272, f 273, f 274, f 275, f 276, f 277, f 278, f 279, f 280, f 281, f 282, f 283, f 284, f 285, f 286, f 287, f 288, f 289, f 290, f 291, f 292, f 293, f 294, f 295, f 296, f 297, f 298, f 299, f 300, f 301, f 302, f 303, f 304, f 305, f 306, f 307, f 308, f 309, f 310, f 311, f 312, f 313, f 314, f 315, f 316, f 317, f 318, f 319, f 320, f 321, f 322, f 323, f 324, f 325, f 326, f 327, f 328, f 329, f 330, f 331, f 332, f 333, f 334, f 335, f 336, f 337, f 338, f 339, f 340, f 341, f 342, f 343, f 344, f 345, f 346, f 347, f 348, f 349, f 350, f 351, f 352, f 353, f 354, f 355, f 356, f 357, f 358, f 359, f 360, f 361, f 362, f 363, f 364, f 365, f 366, f 367, f 368, f 369, f 370, f 371, f 372, f 373, f 374, f 375, f 376, f 377, f 378, f 379, f 380, f 381, f 382, f 383, f 384, f 385, f 386, f 387, f 388, f 389, f 390, f 391, f 392, f 393, f 394, f 395, f 396, f 397, f 398, f 399, f 400, f 401, f 402, f 403, f 404, f 405, f 406, f 407], defers := [] } wr := by
  obtain ⟨iu, hiu, hu0, hu1, hu2⟩ := info_parts u8_info
  obtain ⟨ik, hik, ik0, ik1, ik2⟩ := info_parts tok_info
  obtain ⟨ii, hii, hi0, hi1, hi2⟩ := info_parts int_info
  obtain ⟨ib, hib, hb0, hb1, hb2⟩ := info_parts bool_info
  have hW1 := hW.ltx
  have hW2 := hW.lts
  have hW3 := hW.nc12
  have hW4 := hW.op3
  have hW5 := hW.cll
  have hW6 := hW.ctl
  have hW7 := hW.ub2
  have hW8 := hW.psl
  have HN := Lib.hid hN
  have HW := Lib.hid hW
  have H := Lib.hid hS
  have HC := Lib.hid hC
  clear hN hW hS hC
  conv => arg 2; whnf
  have e3 : ((o : Int) == 3) = false := by rw [beq_eq_false_iff_ne]; omega
  have e4 : ((o : Int) == 4) = false := by rw [beq_eq_false_iff_ne]; omega
  have e5 : ((o : Int) == 5) = false := by rw [beq_eq_false_iff_ne]; omega
  have e6 : ((o : Int) == 6) = false := by rw [beq_eq_false_iff_ne]; omega
  have e7 : ((o : Int) == 7) = false := by rw [beq_eq_false_iff_ne]; omega
  go_upto_region 35 with (go_at_call 13; refine (bump_any H.out HC.out (fun x hx => by have := HW.out.cnt x hx; omega) (by omega)).mono ?_; rintro e w1 ⟨rfl, ⟨R1, hd1, hc1⟩, hfr⟩)
  have H1 := Lib.hid hd1
  have HC1 := Lib.hid hc1
  have hbl : (bumpL ct).length = op.length := by rw [bumpL_len]; exact hW6
  clear hd1 hc1 H HC hfr
  have hn0 : (R1 0).n ≤ 100000 := by rw [HC1.out.tn]; first | omega | (rw [bumpL_len]; omega) | (simp [bumpL_len]; omega)
  have hn1 : (R1 1).n ≤ 100000 := by rw [H1.out.tn]; first | omega | (rw [bumpL_len]; omega) | (simp [bumpL_len]; omega)
  have hn2 : (R1 2).n ≤ 100000 := by rw [HC1.out.pn]; first | omega | (rw [bumpL_len]; omega) | (simp [bumpL_len]; omega)
  have hn3 : (R1 3).n ≤ 100000 := by rw [HC1.out.on]; first | omega | (rw [bumpL_len]; omega) | (simp [bumpL_len]; omega)
  have hn4 : (R1 4).n ≤ 100000 := by rw [HC1.out.cn]; first | omega | (rw [bumpL_len]; omega) | (simp [bumpL_len]; omega)
  have hn5 : (R1 5).n ≤ 100000 := by rw [HC1.out.ln]; first | omega | (rw [bumpL_len]; omega) | (simp [bumpL_len]; omega)
  clear e3 e4 e5 e6 e7
  go_upto_region 36 with (go_at_call 15; refine (rdcls_any H1.out.rd H1.out.Bw).mono ?_; rintro e w2 ⟨c, xs, tao, tcap, hcok, hcat, rfl, hrow, hrd, hg⟩; obtain ⟨xa, xb, xn, xao, xl, xcap, rfl⟩ := ck_four hcat)
  have H2 := Lib.hid ((H1.out.call hg hrd).alloc (.cells #[.int .i64 xa, .int .i64 xb, .bool xn, .slice xao xl xcap] 57))
  have HOK := Lib.hid hcok
  have HCK := Lib.hid (ck_base (hcat.kept (fun _ _ _ _ h => blk_alloc h (.cells #[.int .i64 xa, .int .i64 xb, .bool xn, .slice xao xl xcap] 57))) H1.out.Bw)
  have HQB := Lib.hid (blk_new w2 (.cells #[.int .i64 xa, .int .i64 xb, .bool xn, .slice xao xl xcap] 57))
  have HTR := Lib.hid ((owns_base hrow H1.out.Bw).alloc (.cells #[.int .i64 xa, .int .i64 xb, .bool xn, .slice xao xl xcap] 57))
  clear hcok hcat hrow hrd hg H1
  generalize w2.alloc (.cells #[.int .i64 xa, .int .i64 xb, .bool xn, .slice xao xl xcap] 57) = w3 at *
  obtain ⟨k, hk⟩ : ∃ k, arg % 5 = k := ⟨_, rfl⟩
  have hk5 : k = 0 ∨ k = 1 ∨ k = 2 ∨ k = 3 ∨ k = 4 := by omega
  have htm : Int.tmod (arg : Int) 5 = (k : Int) := by rw [Int.tmod_eq_emod_of_nonneg (by omega), ← hk]; rfl
  have htm2 : (arg : Int) % 5 = (k : Int) := by omega
  clear hk
  clear hn0 hn1 hn2 hn3 hn4 hn5
  rcases hk5 with rfl | rfl | rfl | rfl | rfl
  · go_upto_if 164 with (fail)
    rename_i hK
    have HK := Lib.hid hK
    clear hK
    go_wp2_with fail
    refine HK.out _ _ ?_
    refine wp_same (c' := decTail2) (by kernel_rfl) ?_
    refine sw_cl2_at (Q := Exit.inBlock 4 Q) (ub' := ub) (ob' := ob) (q := 0) H2.out HC1.out HW.out hit (fun a' w' h1 h2 => HN.out a' w' h1 h2) (by simp [quants]) (by simp [unb]) (by omega) (by omega) HOK.out HCK.out HQB.out HTR.out ?_ ?_ ?_ ?_ ?_ ?_ ?_ ?_ ?_ ?_ ?_
    all_goals first | rfl | exact dint_is (by omega)
  · by_cases h2 : 2 ≤ ub
    · have t2 : decide ((2 : Int) ≤ (ub : Int)) = true := decide_eq_true (by omega)
      have t2n : decide (2 ≤ ub) = true := decide_eq_true h2
      go_upto_if 164 with (fail)
      rename_i hK
      have HK := Lib.hid hK
      clear hK
      go_wp2_with fail
      refine HK.out _ _ ?_
      refine wp_same (c' := decTail2) (by kernel_rfl) ?_
      refine sw_cl2_at (Q := Exit.inBlock 4 Q) (ub' := ub) (ob' := ob) (q := 0) H2.out HC1.out HW.out hit (fun a' w' h1 h2 => HN.out a' w' h1 h2) (by simp [quants]) (by simp [unb]) (by omega) (by omega) HOK.out HCK.out HQB.out HTR.out ?_ ?_ ?_ ?_ ?_ ?_ ?_ ?_ ?_ ?_ ?_
      all_goals first | rfl | exact dint_is (by omega)
    · have t2 : decide ((2 : Int) ≤ (ub : Int)) = false := decide_eq_false (by omega)
      have t2n : decide (2 ≤ ub) = false := decide_eq_false h2
      go_upto_if 164 with (fail)
      rename_i hK
      have HK := Lib.hid hK
      clear hK
      go_wp2_with fail
      refine HK.out _ _ ?_
      refine wp_same (c' := decTail2) (by kernel_rfl) ?_
      refine sw_cl2_at (Q := Exit.inBlock 4 Q) (ub' := ub + 1) (ob' := ob) (q := 42) H2.out HC1.out HW.out hit (fun a' w' h1 h2 => HN.out a' w' h1 h2) (by simp [quants]) (by simp [unb]) (by omega) (by omega) HOK.out HCK.out HQB.out HTR.out ?_ ?_ ?_ ?_ ?_ ?_ ?_ ?_ ?_ ?_ ?_
      all_goals first | rfl | exact dint_is (by omega)
  · by_cases h2 : 2 ≤ ub
    · have t2 : decide ((2 : Int) ≤ (ub : Int)) = true := decide_eq_true (by omega)
      have t2n : decide (2 ≤ ub) = true := decide_eq_true h2
      go_upto_if 164 with (fail)
      rename_i hK
      have HK := Lib.hid hK
      clear hK
      go_wp2_with fail
      refine HK.out _ _ ?_
      refine wp_same (c' := decTail2) (by kernel_rfl) ?_
      refine sw_cl2_at (Q := Exit.inBlock 4 Q) (ub' := ub) (ob' := ob) (q := 0) H2.out HC1.out HW.out hit (fun a' w' h1 h2 => HN.out a' w' h1 h2) (by simp [quants]) (by simp [unb]) (by omega) (by omega) HOK.out HCK.out HQB.out HTR.out ?_ ?_ ?_ ?_ ?_ ?_ ?_ ?_ ?_ ?_ ?_
      all_goals first | rfl | exact dint_is (by omega)
    · have t2 : decide ((2 : Int) ≤ (ub : Int)) = false := decide_eq_false (by omega)
      have t2n : decide (2 ≤ ub) = false := decide_eq_false h2
      go_upto_if 164 with (fail)
      rename_i hK
      have HK := Lib.hid hK
      clear hK
      go_wp2_with fail
      refine HK.out _ _ ?_
      refine wp_same (c' := decTail2) (by kernel_rfl) ?_
      refine sw_cl2_at (Q := Exit.inBlock 4 Q) (ub' := ub + 1) (ob' := ob) (q := 43) H2.out HC1.out HW.out hit (fun a' w' h1 h2 => HN.out a' w' h1 h2) (by simp [quants]) (by simp [unb]) (by omega) (by omega) HOK.out HCK.out HQB.out HTR.out ?_ ?_ ?_ ?_ ?_ ?_ ?_ ?_ ?_ ?_ ?_
      all_goals first | rfl | exact dint_is (by omega)
  · by_cases h2 : 2 ≤ ub
    · have t2 : decide ((2 : Int) ≤ (ub : Int)) = true := decide_eq_true (by omega)
      have t2n : decide (2 ≤ ub) = true := decide_eq_true h2
      go_upto_if 164 with (fail)
      rename_i hK
      have HK := Lib.hid hK
      clear hK
      go_wp2_with fail
      refine HK.out _ _ ?_
      refine wp_same (c' := decTail2) (by kernel_rfl) ?_
      refine sw_cl2_at (Q := Exit.inBlock 4 Q) (ub' := ub) (ob' := ob) (q := 0) H2.out HC1.out HW.out hit (fun a' w' h1 h2 => HN.out a' w' h1 h2) (by simp [quants]) (by simp [unb]) (by omega) (by omega) HOK.out HCK.out HQB.out HTR.out ?_ ?_ ?_ ?_ ?_ ?_ ?_ ?_ ?_ ?_ ?_
      all_goals first | rfl | exact dint_is (by omega)
    · have t2 : decide ((2 : Int) ≤ (ub : Int)) = false := decide_eq_false (by omega)
      have t2n : decide (2 ≤ ub) = false := decide_eq_false h2
      go_upto_if 164 with (fail)
      rename_i hK
      have HK := Lib.hid hK
      clear hK
      go_wp2_with fail
      refine HK.out _ _ ?_
      refine wp_same (c' := decTail2) (by kernel_rfl) ?_
      refine sw_cl2_at (Q := Exit.inBlock 4 Q) (ub' := ub + 1) (ob' := ob) (q := 45) H2.out HC1.out HW.out hit (fun a' w' h1 h2 => HN.out a' w' h1 h2) (by simp [quants]) (by simp [unb]) (by omega) (by omega) HOK.out HCK.out HQB.out HTR.out ?_ ?_ ?_ ?_ ?_ ?_ ?_ ?_ ?_ ?_ ?_
      all_goals first | rfl | exact dint_is (by omega)
  · by_cases h2 : 2 ≤ ob
    · have t2 : decide ((2 : Int) ≤ (ob : Int)) = true := decide_eq_true (by omega)
      have t2n : decide (2 ≤ ob) = true := decide_eq_true h2
      go_upto_if 164 with (fail)
      rename_i hK
      have HK := Lib.hid hK
      clear hK
      go_wp2_with fail
      refine HK.out _ _ ?_
      refine wp_same (c' := decTail2) (by kernel_rfl) ?_
      refine sw_cl2_at (Q := Exit.inBlock 4 Q) (ub' := ub) (ob' := ob) (q := 0) H2.out HC1.out HW.out hit (fun a' w' h1 h2 => HN.out a' w' h1 h2) (by simp [quants]) (by simp [unb]) (by omega) (by omega) HOK.out HCK.out HQB.out HTR.out ?_ ?_ ?_ ?_ ?_ ?_ ?_ ?_ ?_ ?_ ?_
      all_goals first | rfl | exact dint_is (by omega)
    · have t2 : decide ((2 : Int) ≤ (ob : Int)) = false := decide_eq_false (by omega)
      have t2n : decide (2 ≤ ob) = false := decide_eq_false h2
      go_upto_if 164 with (fail)
      rename_i hK
      have HK := Lib.hid hK
      clear hK
      go_wp2_with fail
      refine HK.out _ _ ?_
      refine wp_same (c' := decTail2) (by kernel_rfl) ?_
      refine sw_cl2_at (Q := Exit.inBlock 4 Q) (ub' := ub) (ob' := ob + 1) (q := 63) H2.out HC1.out HW.out hit (fun a' w' h1 h2 => HN.out a' w' h1 h2) (by simp [quants]) (by simp [unb]) (by omega) (by omega) HOK.out HCK.out HQB.out HTR.out ?_ ?_ ?_ ?_ ?_ ?_ ?_ ?_ ?_ ?_ ?_
      all_goals first | rfl | exact dint_is (by omega)
theorem sw_cls_at {w0 wr : World} {B r p d nc ub ob it : Nat} {an tl : Bool} {R : Fin 6 → Rw} {ts : List Tk} {txt : List Int} {ps : List Bool} {op ct cl : List Nat} {Q : Exit → Act → World → Prop}
    (hS : DecS w0 wr B r p d an tl nc R ts) (hC : Cont R txt ps op ct cl) (hW : DWf an nc ts txt ps op ct cl ub it) (hit : it < 4096) (hob : ob ≤ 2)
    (hN : ∀ a' w', DFr r p d a' → DRel w0 B r p d an tl w' (it + 1) a' → Q .normal a' w') {o arg : Nat} (v15 : Value) (ho : o < 3) (harg : arg ≤ 31) {a : Act} (hdf : a.defers = []) (hsz : a.tmps.size = 408) (h5 : a.tmps[5]? = some (.pointer (some ⟨r, 0, none⟩))) (h6 : a.tmps[6]? = some (.pointer (some ⟨p, 0, none⟩))) (h7 : a.tmps[7]? = some (.pointer (some ⟨d, 0, none⟩))) (h9 : a.tmps[9]? = some (.int .i64 (ub : Int))) (h10 : a.tmps[10]? = some (.int .i64 (ob : Int))) (h11 : a.tmps[11]? = some (.int .i64 ((it + 1 : Nat) : Int))) (h13 : a.tmps[13]? = some (.int .i64 (o : Int))) (h14 : a.tmps[14]? = some (.int .i64 (arg : Int))) (h15 : a.tmps[15]? = some (v15)) : decTail.wp Tryf.prog Q a wr := by
  obtain ⟨f, hfr⟩ := dframe_litA a.tmps hsz h5 h6 h7 h9 h10 h11 h13 h14 h15
  rw [dact_is hdf, hfr]
  exact sw_cls hS hC hW hit hob hN v15 ho harg f

end Go.Proofs.YtcfhhcjcnafcjaaFmt
