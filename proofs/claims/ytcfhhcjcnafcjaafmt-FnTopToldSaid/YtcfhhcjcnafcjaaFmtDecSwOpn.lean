/-
  A case of the switch in the decoder's loop: Opn. Its condition: as its statement says.
-/
import Derived.Test.YtcfhhcjcnafcjaaFmtCloseAll
namespace Go.Proofs.YtcfhhcjcnafcjaaFmt
open Go.RowKit
set_option linter.unusedVariables false
set_option linter.unusedSimpArgs false

set_option maxRecDepth 1000000 in
set_option maxHeartbeats 40000000 in
theorem sw_opn {w0 wr : World} {B r p d nc ub ob it : Nat} {an tl : Bool} {R : Fin 6 → Rw} {ts : List Tk} {txt : List Int} {ps : List Bool} {op ct cl : List Nat} {Q : Exit → Act → World → Prop}
    (hS : DecS w0 wr B r p d an tl nc R ts) (hC : Cont R txt ps op ct cl) (hW : DWf an nc ts txt ps op ct cl ub it) (hit : it < 4096) (hob : ob ≤ 2)
    (hN : ∀ a' w', DFr r p d a' → DRel w0 B r p d an tl w' (it + 1) a' → Q .normal a' w') {arg : Nat} (v15 : Value) (hnc : nc < 12) (ho3 : op.length < 3) (f : Nat → Value) :
    decTail.wp Tryf.prog Q { tmps := #[f 0, f 1, f 2, f 3, f 4, .pointer (some ⟨r, 0, none⟩), .pointer (some ⟨p, 0, none⟩), .pointer (some ⟨d, 0, none⟩), f 8, .int .i64 (ub : Int), .int .i64 (ob : Int), .int .i64 ((it + 1 : Nat) : Int), f 12, .int .i64 3, .int .i64 (arg : Int), v15, f 16, f 17, f 18, f 19, f 20, f 21, f 22, f 23, f 24, f 25, f 26, f 27, f 28, f 29, f 30, f 31, f 32, f 33, f 34, f 35, f 36, f 37, f 38, f 39, f 40, f 41, f 42, f 43, f 44, f 45, f 46, f 47, f 48, f 49, f 50, f 51, f 52, f 53, f 54, f 55, f 56, f 57, f 58, f 59, f 60, f 61, f 62, f 63, f 64, f 65, f 66, f 67, f 68, f 69, f 70, f 71, f 72, f 73, f 74, f 75, f 76, f 77, f 78, f 79, f 80, f 81, f 82, f 83, f 84, f 85, f 86, f 87, f 88, f 89, f 90, f 91, f 92, f 93, f 94, f 95, f 96, f 97, f 98, f 99, f 100, f 101, f 102, f 103, f 104, f 105, f 106, f 107, f 108, f 109, f 110, f 111, f 112, f 113, f 114, f 115, f 116, f 117, f 118, f 119, f 120, f 121, f 122, f 123, f 124, f 125, f 126, f 127, f 128, f 129, f 130, f 131, f 132, f 133, f 134, f 135, f 136, f 137, f 138, f 139, f 140, f 141, f 142, f 143, f 144, f 145, f 146, f 147, f 148, f 149, f 150, f 151, f 152, f 153, f 154, f 155, f 156, f 157, f 158, f 159, f 160, f 161, f 162, f 163, f 164, f 165, f 166, f 167, f 168, f 169, f 170, f 171, f 172, f 173, f 174, f 175, f 176, f 177, f 178, f 179, f 180, f 181, f 182, f 183, f 184, f 185, f 186, f 187, f 188, f 189, f 190, f 191, f 192, f 193, f 194, f 195, f 196, f 197, f 198, f 199, f 200, f 201, f 202, f 203, f 204, f 205, f 206, f 207, f 208, f 209, f 210, f 211, f 212, f 213, f 214, f 215, f 216, f 217, f 218, f 219, f 220, f 221, f 222, f 223, f 224, f 225, f 226, f 227, f 228, f 229, f 230, f 231, f 232, f 233, f 234, f 235, f 236, f 237, f 238, f 239, f 240, f 241, f 242, f 243, f 244, f 245, f 246, f 247, f 248, f 249, f 250, f 251, f 252, f 253, f 254, f 255, f 256, f 257, f 258, f 259, f 260, f 261, f 262, f 263, f 264, f 265, f 266, f 267, f 268, f 269, f 270, f 271, f 272, f 273, f 274, f 275, f 276, f 277, f 278, f 279, f 280, f 281, f 282, f 283, f 284, f 285, f 286, f 287, f 288, f 289, f 290, f 291, f 292, f 293, f 294, f 295, f 296, f 297, f 298, f 299, f 300, f 301, f 302, f 303, f 304, f 305, f 306, f 307, f 308, f 309, f 310, f 311, f 312, f 313, f 314, f 315, f 316, f 317, f 318, f 319, f 320, f 321, f 322, f 323, f 324, f 325, f 326, f 327, f 328, f 329, f 330, f 331, f 332, f 333, f 334, f 335, f 336, f 337, f 338, f 339, f 340, f 341, f 342, f 343, f 344, f 345, f 346, f 347, f 348, f 349, f 350, f 351, f 352, f 353, f 354, f 355, f 356, f 357, f 358, f 359, f 360, f 361, f 362, f 363, f 364, f 365, f 366, f 367, f 368, f 369, f 370, f 371, f 372, f 373, f 374, f 375, f 376, f 377, f 378, f 379, f 380, f 381, f 382, f 383, f 384, f 385, f 386, f 387, f 388, f 389, f 390, f 391, f 392, f 393, f 394, f 395, f 396, f 397, f 398, f 399, f 400, f 401, f 402, f 403, f 404, f 405, f 406, f 407], defers := [] } wr := by
  obtain ⟨iu, hiu, hu0, hu1, hu2⟩ := info_parts u8_info
  obtain ⟨ik, hik, ik0, ik1, ik2⟩ := info_parts tok_info
  obtain ⟨ii, hii, hi0, hi1, hi2⟩ := info_parts int_info
  obtain ⟨ib, hib, hb0, hb1, hb2⟩ := info_parts bool_info
  have hW1 := hW.ltx
  have hW2 := hW.lts
  have hW3 := hW.nc12
  have hW4 := hW.op3
  have hW5 := hW.cll
  have hW6 := hW.ctl
  have hW7 := hW.ub2
  have hW8 := hW.psl
  have HN := Lib.hid hN
  have HW := Lib.hid hW
  have H := Lib.hid hS
  have HC := Lib.hid hC
  clear hN hW hS hC
  conv => arg 2; whnf
  refine wp_mono (Q := NQ (fun a' w' => Q .normal a' w')) ?_ (fun e a' w' h => by cases e <;> first | exact h | exact h.elim)
  go_upto_region 60 with (go_at_call 13; refine (bump_any H.out HC.out (fun x hx => by have := HW.out.cnt x hx; omega) (by omega)).mono ?_; rintro e w1 ⟨rfl, ⟨R1, hd1, hc1⟩, hfr⟩)
  have H1 := Lib.hid hd1
  have HC1 := Lib.hid hc1
  have hbl : (bumpL ct).length = op.length := by rw [bumpL_len]; exact hW6
  clear hd1 hc1 H HC hfr
  have hn0 : (R1 0).n ≤ 100000 := by rw [HC1.out.tn]; first | omega | (rw [bumpL_len]; omega) | (simp [bumpL_len]; omega)
  have hn1 : (R1 1).n ≤ 100000 := by rw [H1.out.tn]; first | omega | (rw [bumpL_len]; omega) | (simp [bumpL_len]; omega)
  have hn2 : (R1 2).n ≤ 100000 := by rw [HC1.out.pn]; first | omega | (rw [bumpL_len]; omega) | (simp [bumpL_len]; omega)
  have hn3 : (R1 3).n ≤ 100000 := by rw [HC1.out.on]; first | omega | (rw [bumpL_len]; omega) | (simp [bumpL_len]; omega)
  have hn4 : (R1 4).n ≤ 100000 := by rw [HC1.out.cn]; first | omega | (rw [bumpL_len]; omega) | (simp [bumpL_len]; omega)
  have hn5 : (R1 5).n ≤ 100000 := by rw [HC1.out.ln]; first | omega | (rw [bumpL_len]; omega) | (simp [bumpL_len]; omega)
  have kp4 := blk_cell H1.out.pblk 4 _ rfl
  have fp4 := blk_free H1.out.pblk 4
  obtain ⟨mc, hmc⟩ : ∃ mc, nc + 1 = mc := ⟨_, rfl⟩
  have hmi : (nc : Int) + 1 = (mc : Int) := by omega
  have hmb : mc ≤ 12 := by omega
  have HMC := Lib.hid hmc
  clear hmc
  go_upto_region 61 with (fail)
  have H2 := Lib.hid (H1.out.setNc mc)
  have HC2 := HC1
  generalize hw9 : World.setCell w1 _ _ = w2 at *
  obtain ⟨R2, hR2⟩ : ∃ x, R1 = x := ⟨_, rfl⟩
  rw [hR2] at H2 HC2 hn0 hn1 hn2 hn3 hn4 hn5
  clear hw9 kp4 fp4 H1 HC1 hR2 hmi
  have ad1 := blk_cell H2.out.dblk 1 _ rfl
  have afd1 := blk_free H2.out.dblk 1
  have ap4 := blk_cell H2.out.pblk 4 _ rfl
  have afp4 := blk_free H2.out.pblk 4
  have n1 : ∀ o, (w2.alloc o).cell? ⟨d, 1, none⟩ = some (.slice (R2 3).ao (R2 3).n (R2 3).cap) := fun o => blk_cell (blk_alloc H2.out.dblk o) 1 _ rfl
  go_upto_region 61 with (fail)
  go_cut [] from 213 to 225 (fun wc => ∃ R', DecS w0 wc B r p d an tl mc R' ts ∧ Cont R' txt ps (op ++ [mc]) (bumpL ct) cl)
  case first =>
    go_region_law (refine step_append_lies _ (by rfl) _ _ _ (by rfl) B 3 ii (.int .i64 0) 1 8 Tryf.underlying37 hii hi0 hi1 hi2 rfl (by decide) (.slice (R2 3).ao (R2 3).n (R2 3).cap) (R2 3).n (R2 3).xs (by rfl) (H2.out.alloc _).drew.own3 ⟨w2.heap.size, 0, none⟩ 1 1 [.int .i64 (mc : Int)] (by rfl) (by rfl) (news_dr (cs := #[.int .i64 (mc : Int)])) (by simp [Value.oneCell']) (by decide) (by unfold maxLen; omega) (by omega) (Nat.le_trans H2.out.Bw (by simp)) (w2.heap.size + 1) (by simp) ?_; intro g1 c1 w8 hown hgrow hat hlt8; have HO := Lib.hid hown; have HGw : Hid (World.grownBy _ w8 (blkOf (R2 3).ao)) := Lib.hid (by rw [ownBlock_slice] at hgrow; exact hgrow); have HAt := Lib.hid (by rw [ownBlock_slice] at hat; exact hat); have hkp := (H2.out.alloc _).drew.pGrown (i := 3) HGw.out; have hkd := (H2.out.alloc _).drew.dGrown (i := 3) HGw.out; have q0 : w8.cell? ⟨d, 0, none⟩ = some (.pointer (some ⟨p, 0, none⟩)) := blk_cell hkd 0 _ rfl; have q1 := blk_cell hkd 1 _ rfl; have q2 := blk_free hkd 1; have q4 := blk_cell hkp 4 _ rfl; clear hown hgrow hat hlt8 hkp hkd)
    all_goals
      go_wp2_with fail
      go_meet
      case rel => exact ⟨_, (H2.out.alloc _).drew.push3 HO.out HGw.out (HAt.out.imp id (fun h => by rw [h]; simp)), HC2.out.push3 (some ⟨g1, 0, none⟩) c1 mc⟩
  obtain ⟨R3, hd1, hc1⟩ := hcut
  have H3 := Lib.hid hd1
  have HC3 := Lib.hid hc1
  generalize wc = w3 at *
  clear hd1 hc1 n1 ad1 afd1 ap4 afp4 H2 HC2 
  clear hn0 hn1 hn2 hn3 hn4 hn5
  have hn0 : (R3 0).n ≤ 100000 := by rw [HC3.out.tn]; first | omega | (rw [bumpL_len]; omega) | (simp [bumpL_len]; omega)
  have hn1 : (R3 1).n ≤ 100000 := by rw [H3.out.tn]; first | omega | (rw [bumpL_len]; omega) | (simp [bumpL_len]; omega)
  have hn2 : (R3 2).n ≤ 100000 := by rw [HC3.out.pn]; first | omega | (rw [bumpL_len]; omega) | (simp [bumpL_len]; omega)
  have hn3 : (R3 3).n ≤ 100000 := by rw [HC3.out.on]; first | omega | (rw [bumpL_len]; omega) | (simp [bumpL_len]; omega)
  have hn4 : (R3 4).n ≤ 100000 := by rw [HC3.out.cn]; first | omega | (rw [bumpL_len]; omega) | (simp [bumpL_len]; omega)
  have hn5 : (R3 5).n ≤ 100000 := by rw [HC3.out.ln]; first | omega | (rw [bumpL_len]; omega) | (simp [bumpL_len]; omega)
  have ad2 := blk_cell H3.out.dblk 2 _ rfl
  have afd2 := blk_free H3.out.dblk 2
  go_upto_region 63 with (at_builtin; go_loud (refine wpList_push _ rfl (.tmp 230) (.tmp 231) 37 rfl B 3 ii (.int .i64 0) 1 8 Tryf.underlying37 hii hi0 hi1 hi2 rfl (by decide) _ _ _ _ rfl (H3.out.own4.alloc _) ⟨w3.heap.size, 0, none⟩ 1 1 [.int .i64 0] rfl rfl (news_any (by simp)) (by simp [Value.oneCell']) (by decide) (by unfold maxLen; omega) (by omega) (Nat.le_trans H3.out.Bw (by simp)) ?_; intro g1 c1 w8 hown hgrow hwhere; have HO := Lib.hid hown; have HGw := Lib.hid hgrow; have HWh := Lib.hid hwhere; have hk8 := (H3.out.alloc _).dGrown (i := 4) HGw.out; have kc8 := blk_cell hk8 2 _ rfl; have fc8 := blk_free hk8 2; clear hown hgrow hwhere hk8))
  have H4 := Lib.hid ((H3.out.alloc _).push4 HO.out HGw.out HWh.out)
  have HC4 := Lib.hid (HC3.out.push4 (some ⟨g1, 0, none⟩) c1 0)
  generalize hw9 : World.setCell w8 _ _ = w4 at *
  generalize hR9 : upd R3 _ _ = R4 at H4 HC4
  clear hw9 hR9 HO HGw HWh kc8 fc8 ad2 afd2 H3 HC3
  clear hn0 hn1 hn2 hn3 hn4 hn5
  have hn0 : (R4 0).n ≤ 100000 := by rw [HC4.out.tn]; first | omega | (rw [bumpL_len]; omega) | (simp [bumpL_len]; omega)
  have hn1 : (R4 1).n ≤ 100000 := by rw [H4.out.tn]; first | omega | (rw [bumpL_len]; omega) | (simp [bumpL_len]; omega)
  have hn2 : (R4 2).n ≤ 100000 := by rw [HC4.out.pn]; first | omega | (rw [bumpL_len]; omega) | (simp [bumpL_len]; omega)
  have hn3 : (R4 3).n ≤ 100000 := by rw [HC4.out.on]; first | omega | (rw [bumpL_len]; omega) | (simp [bumpL_len]; omega)
  have hn4 : (R4 4).n ≤ 100000 := by rw [HC4.out.cn]; first | omega | (rw [bumpL_len]; omega) | (simp [bumpL_len]; omega)
  have hn5 : (R4 5).n ≤ 100000 := by rw [HC4.out.ln]; first | omega | (rw [bumpL_len]; omega) | (simp [bumpL_len]; omega)
  have ap5 := blk_cell H4.out.pblk 5 _ rfl
  have afp5 := blk_free H4.out.pblk 5
  go_upto_region 64 with (at_builtin; go_loud (refine wpList_push _ rfl (.tmp 239) (.tmp 240) 33 rfl B 4 ib (.bool false) 1 1 Tryf.underlying33 hib hb0 hb1 hb2 rfl (by decide) _ _ _ _ rfl (H4.out.own2.alloc _) ⟨w4.heap.size, 0, none⟩ 1 1 [.bool false] rfl rfl (news_any (by simp)) (by simp [Value.oneCell']) (by decide) (by unfold maxLen; omega) (by omega) (Nat.le_trans H4.out.Bw (by simp)) ?_; intro g1 c1 w8 hown hgrow hwhere; have HO := Lib.hid hown; have HGw := Lib.hid hgrow; have HWh := Lib.hid hwhere; have hk8 := (H4.out.alloc _).pGrown (i := 2) HGw.out; have kc8 := blk_cell hk8 5 _ rfl; have fc8 := blk_free hk8 5; clear hown hgrow hwhere hk8))
  have H5 := Lib.hid ((H4.out.alloc _).push2 HO.out HGw.out HWh.out)
  have HC5 := Lib.hid (HC4.out.push2 (some ⟨g1, 0, none⟩) c1 false)
  generalize hw9 : World.setCell w8 _ _ = w5 at *
  generalize hR9 : upd R4 _ _ = R5 at H5 HC5
  clear hw9 hR9 HO HGw HWh kc8 fc8 ap5 afp5 H4 HC4
  clear hn0 hn1 hn2 hn3 hn4 hn5
  have hn0 : (R5 0).n ≤ 100000 := by rw [HC5.out.tn]; first | omega | (rw [bumpL_len]; omega) | (simp [bumpL_len]; omega)
  have hn1 : (R5 1).n ≤ 100000 := by rw [H5.out.tn]; first | omega | (rw [bumpL_len]; omega) | (simp [bumpL_len]; omega)
  have hn2 : (R5 2).n ≤ 100000 := by rw [HC5.out.pn]; first | omega | (rw [bumpL_len]; omega) | (simp [bumpL_len]; omega)
  have hn3 : (R5 3).n ≤ 100000 := by rw [HC5.out.on]; first | omega | (rw [bumpL_len]; omega) | (simp [bumpL_len]; omega)
  have hn4 : (R5 4).n ≤ 100000 := by rw [HC5.out.cn]; first | omega | (rw [bumpL_len]; omega) | (simp [bumpL_len]; omega)
  have hn5 : (R5 5).n ≤ 100000 := by rw [HC5.out.ln]; first | omega | (rw [bumpL_len]; omega) | (simp [bumpL_len]; omega)
  have ap0 := blk_cell H5.out.pblk 0 _ rfl
  have afp0 := blk_free H5.out.pblk 0
  go_upto_region 65 with (at_builtin; go_loud (refine wpList_push _ rfl (.tmp 248) (.tmp 249) 22 rfl B 5 iu (.int .u8 0) 1 1 Tryf.underlying22 hiu hu0 hu1 hu2 rfl (by decide) _ _ _ _ rfl (H5.out.own0.alloc _) ⟨w5.heap.size, 0, none⟩ 1 1 [.int .u8 40] rfl rfl (news_any (by simp)) (by simp [Value.oneCell']) (by decide) (by unfold maxLen; omega) (by omega) (Nat.le_trans H5.out.Bw (by simp)) ?_; intro g1 c1 w8 hown hgrow hwhere; have HO := Lib.hid hown; have HGw := Lib.hid hgrow; have HWh := Lib.hid hwhere; have hk8 := (H5.out.alloc _).pGrown (i := 0) HGw.out; have kc8 := blk_cell hk8 0 _ rfl; have fc8 := blk_free hk8 0; clear hown hgrow hwhere hk8))
  have H6 := Lib.hid ((H5.out.alloc _).push0 HO.out HGw.out HWh.out)
  have HC6 := Lib.hid (HC5.out.push0x (some ⟨g1, 0, none⟩) c1 1 [40] rfl ((R5 0).xs ++ [.int .u8 40]) rfl)
  generalize hw9 : World.setCell w8 _ _ = w6 at *
  generalize hR9 : upd R5 _ _ = R6 at H6 HC6
  clear hw9 hR9 HO HGw HWh kc8 fc8 ap0 afp0 H5 HC5
  clear hn0 hn1 hn2 hn3 hn4 hn5
  have hn0 : (R6 0).n ≤ 100000 := by rw [HC6.out.tn]; first | omega | (rw [bumpL_len]; omega) | (simp [bumpL_len]; omega)
  have hn1 : (R6 1).n ≤ 100000 := by rw [H6.out.tn]; first | omega | (rw [bumpL_len]; omega) | (simp [bumpL_len]; omega)
  have hn2 : (R6 2).n ≤ 100000 := by rw [HC6.out.pn]; first | omega | (rw [bumpL_len]; omega) | (simp [bumpL_len]; omega)
  have hn3 : (R6 3).n ≤ 100000 := by rw [HC6.out.on]; first | omega | (rw [bumpL_len]; omega) | (simp [bumpL_len]; omega)
  have hn4 : (R6 4).n ≤ 100000 := by rw [HC6.out.cn]; first | omega | (rw [bumpL_len]; omega) | (simp [bumpL_len]; omega)
  have hn5 : (R6 5).n ≤ 100000 := by rw [HC6.out.ln]; first | omega | (rw [bumpL_len]; omega) | (simp [bumpL_len]; omega)
  have ap1 := blk_cell H6.out.pblk 1 _ rfl
  have afp1 := blk_free H6.out.pblk 1
  have ap4 := blk_cell H6.out.pblk 4 _ rfl
  have afp4 := blk_free H6.out.pblk 4
  have n1 : ∀ o, (w6.alloc o).cell? ⟨p, 1, none⟩ = some (.slice (R6 1).ao (R6 1).n (R6 1).cap) := fun o => blk_cell (blk_alloc H6.out.pblk o) 1 _ rfl
  go_upto_region 65 with (fail)
  go_region_law (refine step_append_lies _ (by rfl) _ _ _ (by rfl) B 59 ik _ 8 80 Tryf.underlying32 hik ik0 ik1 ik2 rfl (by decide) (.slice (R6 1).ao (R6 1).n (R6 1).cap) (R6 1).n (R6 1).xs (by rfl) (H6.out.alloc _).drew.own1 ⟨w6.heap.size, 0, none⟩ 1 1 [.int .i64 1, .int .i64 0, .int .i64 0, .bool false, .slice none 0 0, .int .u8 0, .int .i64 (mc : Int), .int .i64 0] (by rfl) (by rfl) (news_dr (cs := #[.int .i64 1, .int .i64 0, .int .i64 0, .bool false, .slice none 0 0, .int .u8 0, .int .i64 (mc : Int), .int .i64 0])) (by simp [Value.oneCell']) (by decide) (by unfold maxLen; omega) (by omega) (Nat.le_trans H6.out.Bw (by simp)) (w6.heap.size + 1) (by simp) ?_; intro g1 c1 w8 hown hgrow hat hlt8; have HO := Lib.hid hown; have HGw : Hid (World.grownBy _ w8 (blkOf (R6 1).ao)) := Lib.hid (by rw [ownBlock_slice] at hgrow; exact hgrow); have HAt := Lib.hid (by rw [ownBlock_slice] at hat; exact hat); have hkp := (H6.out.alloc _).drew.pGrown (i := 1) HGw.out; have hkd := (H6.out.alloc _).drew.dGrown (i := 1) HGw.out; have q0 : w8.cell? ⟨d, 0, none⟩ = some (.pointer (some ⟨p, 0, none⟩)) := blk_cell hkd 0 _ rfl; have q1 := blk_cell hkp 1 _ rfl; have q2 := blk_free hkp 1; have q4 := blk_cell hkp 4 _ rfl; clear hown hgrow hat hlt8 hkp hkd)
  all_goals
    go_wp2_with fail
    have H7 := Lib.hid ((H6.out.alloc _).drew.push1 HO.out HGw.out (HAt.out.imp id (fun h => by rw [h]; simp)) ((H6.out.alloc _).drew.toks.append (.one .opn)))
    have HC7 := Lib.hid (HC6.out.push1 ⟨some ⟨g1, 0, none⟩, c1, (R6 1).n + 1, (R6 1).xs ++ [.int .i64 1, .int .i64 0, .int .i64 0, .bool false, .slice none 0 0, .int .u8 0, .int .i64 (mc : Int), .int .i64 0]⟩)
    exact HN.out _ _ ⟨rfl, rfl, rfl, rfl, rfl⟩ (drel_mk (nc := mc) (ub := ub) (ob := ob) rfl rfl rfl H7.out HC7.out (by have h := HW.out.opened hnc ho3; rw [HMC.out] at h; exact h) (by omega) (by omega))
theorem sw_opn_at {w0 wr : World} {B r p d nc ub ob it : Nat} {an tl : Bool} {R : Fin 6 → Rw} {ts : List Tk} {txt : List Int} {ps : List Bool} {op ct cl : List Nat} {Q : Exit → Act → World → Prop}
    (hS : DecS w0 wr B r p d an tl nc R ts) (hC : Cont R txt ps op ct cl) (hW : DWf an nc ts txt ps op ct cl ub it) (hit : it < 4096) (hob : ob ≤ 2)
    (hN : ∀ a' w', DFr r p d a' → DRel w0 B r p d an tl w' (it + 1) a' → Q .normal a' w') {arg : Nat} (v15 : Value) (hnc : nc < 12) (ho3 : op.length < 3) {a : Act} (hdf : a.defers = []) (hsz : a.tmps.size = 408) (h5 : a.tmps[5]? = some (.pointer (some ⟨r, 0, none⟩))) (h6 : a.tmps[6]? = some (.pointer (some ⟨p, 0, none⟩))) (h7 : a.tmps[7]? = some (.pointer (some ⟨d, 0, none⟩))) (h9 : a.tmps[9]? = some (.int .i64 (ub : Int))) (h10 : a.tmps[10]? = some (.int .i64 (ob : Int))) (h11 : a.tmps[11]? = some (.int .i64 ((it + 1 : Nat) : Int))) (h13 : a.tmps[13]? = some (.int .i64 3)) (h14 : a.tmps[14]? = some (.int .i64 (arg : Int))) (h15 : a.tmps[15]? = some (v15)) : decTail.wp Tryf.prog Q a wr := by
  obtain ⟨f, hfr⟩ := dframe_litA a.tmps hsz h5 h6 h7 h9 h10 h11 h13 h14 h15
  rw [dact_is hdf, hfr]
  exact sw_opn hS hC hW hit hob hN v15 hnc ho3 f
end Go.Proofs.YtcfhhcjcnafcjaaFmt
