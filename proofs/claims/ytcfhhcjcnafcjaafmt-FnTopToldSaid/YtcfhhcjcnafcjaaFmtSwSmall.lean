/-
  Cases of the switch in the decoder's loop: a capture closed, a reference, a balanced match. Conditions as each statement says.
-/
import Derived.Test.YtcfhhcjcnafcjaaFmtCloseAll
namespace Go.Proofs.YtcfhhcjcnafcjaaFmt
open Go.RowKit
set_option linter.unusedVariables false
set_option linter.unusedSimpArgs false


set_option maxRecDepth 1000000 in
set_option maxHeartbeats 40000000 in
theorem sw_clo {w0 wr : World} {B r p d nc ub ob it : Nat} {an tl : Bool} {R : Fin 6 → Rw} {ts : List Tk} {txt : List Int} {ps : List Bool} {op ct cl : List Nat} {Q : Exit → Act → World → Prop}
    (hS : DecS w0 wr B r p d an tl nc R ts) (hC : Cont R txt ps op ct cl) (hW : DWf an nc ts txt ps op ct cl ub it) (hit : it < 4096) (hob : ob ≤ 2)
    (hN : ∀ a' w', DFr r p d a' → DRel w0 B r p d an tl w' (it + 1) a' → Q .normal a' w') {op0 ct0 : List Nat} {n c arg : Nat} (v15 : Value) (hop : op = op0 ++ [n]) (hct0 : ct = ct0 ++ [c]) (f : Nat → Value) :
    decTail.wp Tryf.prog Q { tmps := #[f 0, f 1, f 2, f 3, f 4, .pointer (some ⟨r, 0, none⟩), .pointer (some ⟨p, 0, none⟩), .pointer (some ⟨d, 0, none⟩), f 8, .int .i64 (ub : Int), .int .i64 (ob : Int), .int .i64 ((it + 1 : Nat) : Int), f 12, .int .i64 4, .int .i64 (arg : Int), v15, f 16, f 17, f 18, f 19, f 20, f 21, f 22, f 23, f 24, f 25, f 26, f 27, f 28, f 29, f 30, f 31, f 32, f 33, f 34, f 35, f 36, f 37, f 38, f 39, f 40, f 41, f 42, f 43, f 44, f 45, f 46, f 47, f 48, f 49, f 50, f 51, f 52, f 53, f 54, f 55, f 56, f 57, f 58, f 59, f 60, f 61, f 62, f 63, f 64, f 65, f 66, f 67, f 68, f 69, f 70, f 71, f 72, f 73, f 74, f 75, f 76, f 77, f 78, f 79, f 80, f 81, f 82, f 83, f 84, f 85, f 86, f 87, f 88, f 89, f 90, f 91, f 92, f 93, f 94, f 95, f 96, f 97, f 98, f 99, f 100, f 101, f 102, f 103, f 104, f 105, f 106, f 107, f 108, f 109, f 110, f 111, f 112, f 113, f 114, f 115, f 116, f 117, f 118, f 119, f 120, f 121, f 122, f 123, f 124, f 125, f 126, f 127, f 128, f 129, f 130, f 131, f 132, f 133, f 134, f 135, f 136, f 137, f 138, f 139, f 140, f 141, f 142, f 143, f 144, f 145, f 146, f 147, f 148, f 149, f 150, f 151, f 152, f 153, f 154, f 155, f 156, f 157, f 158, f 159, f 160, f 161, f 162, f 163, f 164, f 165, f 166, f 167, f 168, f 169, f 170, f 171, f 172, f 173, f 174, f 175, f 176, f 177, f 178, f 179, f 180, f 181, f 182, f 183, f 184, f 185, f 186, f 187, f 188, f 189, f 190, f 191, f 192, f 193, f 194, f 195, f 196, f 197, f 198, f 199, f 200, f 201, f 202, f 203, f 204, f 205, f 206, f 207, f 208, f 209, f 210, f 211, f 212, f 213, f 214, f 215, f 216, f 217, f 218, f 219, f 220, f 221, f 222, f 223, f 224, f 225, f 226, f 227, f 228, f 229, f 230, f 231, f 232, f 233, f 234, f 235, f 236, f 237, f 238, f 239, f 240, f 241, f 242, f 243, f 244, f 245, f 246, f 247, f 248, f 249, f 250, f 251, f 252, f 253, f 254, f 255, f 256, f 257, f 258, f 259, f 260, f 261, f 262, f 263, f 264, f 265, f 266, f 267, f 268, f 269, f 270, f 271, f 272, f 273, f 274, f 275, f 276, f 277, f 278, f 279, f 280, f 281, f 282, f 283, f 284, f 285, f 286, f 287, f 288, f 289, f 290, f 291, f 292, f 293, f 294, f 295, f 296, f 297, f 298, f 299, f 300, f 301, f 302, f 303, f 304, f 305, f 306, f 307, f 308, f 309, f 310, f 311, f 312, f 313, f 314, f 315, f 316, f 317, f 318, f 319, f 320, f 321, f 322, f 323, f 324, f 325, f 326, f 327, f 328, f 329, f 330, f 331, f 332, f 333, f 334, f 335, f 336, f 337, f 338, f 339, f 340, f 341, f 342, f 343, f 344, f 345, f 346, f 347, f 348, f 349, f 350, f 351, f 352, f 353, f 354, f 355, f 356, f 357, f 358, f 359, f 360, f 361, f 362, f 363, f 364, f 365, f 366, f 367, f 368, f 369, f 370, f 371, f 372, f 373, f 374, f 375, f 376, f 377, f 378, f 379, f 380, f 381, f 382, f 383, f 384, f 385, f 386, f 387, f 388, f 389, f 390, f 391, f 392, f 393, f 394, f 395, f 396, f 397, f 398, f 399, f 400, f 401, f 402, f 403, f 404, f 405, f 406, f 407], defers := [] } wr := by
  obtain ⟨iu, hiu, hu0, hu1, hu2⟩ := info_parts u8_info
  obtain ⟨ik, hik, ik0, ik1, ik2⟩ := info_parts tok_info
  obtain ⟨ii, hii, hi0, hi1, hi2⟩ := info_parts int_info
  obtain ⟨ib, hib, hb0, hb1, hb2⟩ := info_parts bool_info
  have hW1 := hW.ltx
  have hW2 := hW.lts
  have hW3 := hW.nc12
  have hW4 := hW.op3
  have hW5 := hW.cll
  have hW6 := hW.ctl
  have hW7 := hW.ub2
  have hW8 := hW.psl
  have HN := Lib.hid hN
  have HW := Lib.hid hW
  have H := Lib.hid hS
  have HC := Lib.hid hC
  clear hN hW hS hC
  conv => arg 2; whnf
  go_wp2_with (go_at_call 14; refine (close_any H.out (by have h := HC.out; rw [hop, hct0] at h; exact h) (by have := (HW.out.opn n (by rw [hop]; simp)).2; omega) (by have := HW.out.cnt c (by rw [hct0]; simp); omega) (by rw [hop] at hW4; simp at hW4; omega) (by rw [hop, hct0] at hW6; simpa using hW6) (by omega) (by omega) (by omega)).mono ?_; rintro e w1 ⟨rfl, R1, hd1, hc1⟩)
  exact HN.out _ _ ⟨rfl, rfl, rfl, rfl, rfl⟩ (drel_mk (nc := nc) (ub := ub) (ob := ob) rfl rfl rfl hd1 hc1 (by have h := HW.out; rw [hop, hct0] at h; exact h.closed.mono (Nat.le_succ it)) (by omega) (by omega))
theorem sw_clo_at {w0 wr : World} {B r p d nc ub ob it : Nat} {an tl : Bool} {R : Fin 6 → Rw} {ts : List Tk} {txt : List Int} {ps : List Bool} {op ct cl : List Nat} {Q : Exit → Act → World → Prop}
    (hS : DecS w0 wr B r p d an tl nc R ts) (hC : Cont R txt ps op ct cl) (hW : DWf an nc ts txt ps op ct cl ub it) (hit : it < 4096) (hob : ob ≤ 2)
    (hN : ∀ a' w', DFr r p d a' → DRel w0 B r p d an tl w' (it + 1) a' → Q .normal a' w') {op0 ct0 : List Nat} {n c arg : Nat} (v15 : Value) (hop : op = op0 ++ [n]) (hct0 : ct = ct0 ++ [c]) {a : Act} (hdf : a.defers = []) (hsz : a.tmps.size = 408) (h5 : a.tmps[5]? = some (.pointer (some ⟨r, 0, none⟩))) (h6 : a.tmps[6]? = some (.pointer (some ⟨p, 0, none⟩))) (h7 : a.tmps[7]? = some (.pointer (some ⟨d, 0, none⟩))) (h9 : a.tmps[9]? = some (.int .i64 (ub : Int))) (h10 : a.tmps[10]? = some (.int .i64 (ob : Int))) (h11 : a.tmps[11]? = some (.int .i64 ((it + 1 : Nat) : Int))) (h13 : a.tmps[13]? = some (.int .i64 4)) (h14 : a.tmps[14]? = some (.int .i64 (arg : Int))) (h15 : a.tmps[15]? = some (v15)) : decTail.wp Tryf.prog Q a wr := by
  obtain ⟨f, hfr⟩ := dframe_litA a.tmps hsz h5 h6 h7 h9 h10 h11 h13 h14 h15
  rw [dact_is hdf, hfr]
  exact sw_clo hS hC hW hit hob hN v15 hop hct0 f


set_option maxRecDepth 1000000 in
set_option maxHeartbeats 40000000 in
theorem sw_ref {w0 wr : World} {B r p d nc ub ob it : Nat} {an tl : Bool} {R : Fin 6 → Rw} {ts : List Tk} {txt : List Int} {ps : List Bool} {op ct cl : List Nat} {Q : Exit → Act → World → Prop}
    (hS : DecS w0 wr B r p d an tl nc R ts) (hC : Cont R txt ps op ct cl) (hW : DWf an nc ts txt ps op ct cl ub it) (hit : it < 4096) (hob : ob ≤ 2)
    (hN : ∀ a' w', DFr r p d a' → DRel w0 B r p d an tl w' (it + 1) a' → Q .normal a' w') {arg m capc gc : Nat} (harg : arg ≤ 31) (hm0 : 0 < m) (hm9 : m ≤ 16) (hgc : blkOf (R 4).ao ≠ some gc) (hcd : ∀ j, j < m → ∃ n : Nat, wr.cell? ⟨gc, j, none⟩ = some (.int .i64 (n : Int)) ∧ n ∈ cl ∧ n ≤ 9 ∧ 1 ≤ n) (f : Nat → Value) :
    decTail.wp Tryf.prog Q { tmps := #[f 0, f 1, f 2, f 3, f 4, .pointer (some ⟨r, 0, none⟩), .pointer (some ⟨p, 0, none⟩), .pointer (some ⟨d, 0, none⟩), f 8, .int .i64 (ub : Int), .int .i64 (ob : Int), .int .i64 ((it + 1 : Nat) : Int), f 12, .int .i64 6, .int .i64 (arg : Int), .slice (some ⟨gc, 0, none⟩) m capc, f 16, f 17, f 18, f 19, f 20, f 21, f 22, f 23, f 24, f 25, f 26, f 27, f 28, f 29, f 30, f 31, f 32, f 33, f 34, f 35, f 36, f 37, f 38, f 39, f 40, f 41, f 42, f 43, f 44, f 45, f 46, f 47, f 48, f 49, f 50, f 51, f 52, f 53, f 54, f 55, f 56, f 57, f 58, f 59, f 60, f 61, f 62, f 63, f 64, f 65, f 66, f 67, f 68, f 69, f 70, f 71, f 72, f 73, f 74, f 75, f 76, f 77, f 78, f 79, f 80, f 81, f 82, f 83, f 84, f 85, f 86, f 87, f 88, f 89, f 90, f 91, f 92, f 93, f 94, f 95, f 96, f 97, f 98, f 99, f 100, f 101, f 102, f 103, f 104, f 105, f 106, f 107, f 108, f 109, f 110, f 111, f 112, f 113, f 114, f 115, f 116, f 117, f 118, f 119, f 120, f 121, f 122, f 123, f 124, f 125, f 126, f 127, f 128, f 129, f 130, f 131, f 132, f 133, f 134, f 135, f 136, f 137, f 138, f 139, f 140, f 141, f 142, f 143, f 144, f 145, f 146, f 147, f 148, f 149, f 150, f 151, f 152, f 153, f 154, f 155, f 156, f 157, f 158, f 159, f 160, f 161, f 162, f 163, f 164, f 165, f 166, f 167, f 168, f 169, f 170, f 171, f 172, f 173, f 174, f 175, f 176, f 177, f 178, f 179, f 180, f 181, f 182, f 183, f 184, f 185, f 186, f 187, f 188, f 189, f 190, f 191, f 192, f 193, f 194, f 195, f 196, f 197, f 198, f 199, f 200, f 201, f 202, f 203, f 204, f 205, f 206, f 207, f 208, f 209, f 210, f 211, f 212, f 213, f 214, f 215, f 216, f 217, f 218, f 219, f 220, f 221, f 222, f 223, f 224, f 225, f 226, f 227, f 228, f 229, f 230, f 231, f 232, f 233, f 234, f 235, f 236, f 237, f 238, f 239, f 240, f 241, f 242, f 243, f 244, f 245, f 246, f 247, f 248, f 249, f 250, f 251, f 252, f 253, f 254, f 255, f 256, f 257, f 258, f 259, f 260, f 261, f 262, f 263, f 264, f 265, f 266, f 267, f 268, f 269, f 270, f 271, f 272, f 273, f 274, f 275, f 276, f 277, f 278, f 279, f 280, f 281, f 282, f 283, f 284, f 285, f 286, f 287, f 288, f 289, f 290, f 291, f 292, f 293, f 294, f 295, f 296, f 297, f 298, f 299, f 300, f 301, f 302, f 303, f 304, f 305, f 306, f 307, f 308, f 309, f 310, f 311, f 312, f 313, f 314, f 315, f 316, f 317, f 318, f 319, f 320, f 321, f 322, f 323, f 324, f 325, f 326, f 327, f 328, f 329, f 330, f 331, f 332, f 333, f 334, f 335, f 336, f 337, f 338, f 339, f 340, f 341, f 342, f 343, f 344, f 345, f 346, f 347, f 348, f 349, f 350, f 351, f 352, f 353, f 354, f 355, f 356, f 357, f 358, f 359, f 360, f 361, f 362, f 363, f 364, f 365, f 366, f 367, f 368, f 369, f 370, f 371, f 372, f 373, f 374, f 375, f 376, f 377, f 378, f 379, f 380, f 381, f 382, f 383, f 384, f 385, f 386, f 387, f 388, f 389, f 390, f 391, f 392, f 393, f 394, f 395, f 396, f 397, f 398, f 399, f 400, f 401, f 402, f 403, f 404, f 405, f 406, f 407], defers := [] } wr := by
  obtain ⟨iu, hiu, hu0, hu1, hu2⟩ := info_parts u8_info
  obtain ⟨ik, hik, ik0, ik1, ik2⟩ := info_parts tok_info
  obtain ⟨ii, hii, hi0, hi1, hi2⟩ := info_parts int_info
  obtain ⟨ib, hib, hb0, hb1, hb2⟩ := info_parts bool_info
  have hW1 := hW.ltx
  have hW2 := hW.lts
  have hW3 := hW.nc12
  have hW4 := hW.op3
  have hW5 := hW.cll
  have hW6 := hW.ctl
  have hW7 := hW.ub2
  have hW8 := hW.psl
  have HN := Lib.hid hN
  have HW := Lib.hid hW
  have H := Lib.hid hS
  have HC := Lib.hid hC
  clear hN hW hS hC
  conv => arg 2; whnf
  obtain ⟨j, hj⟩ : ∃ j, arg % m = j := ⟨_, rfl⟩
  have hjm : j < m := by rw [← hj]; exact Nat.mod_lt _ hm0
  have htm : Int.tmod (arg : Int) (m : Int) = (j : Int) := by rw [Int.tmod_eq_emod_of_nonneg (by omega), ← hj]; rfl
  have htm2 : (arg : Int) % (m : Int) = (j : Int) := by rw [← hj]; rfl
  obtain ⟨n, hcn, hncl, hn9, hn1'⟩ := hcd j hjm
  have hjmi : (j : Int) < (m : Int) := by omega
  have hm0i : ((m : Int) == 0) = false := by rw [beq_eq_false_iff_ne]; omega
  have hwn : IntKind.u8.wrap (48 + (n : Int)) = 48 + (n : Int) := by rw [IntWalk.u8_in _ (by omega)]
  have HNC := Lib.hid hncl
  have hcn' := lt_of_cell hcn
  clear hcd hj hncl
  go_upto_region 76 with (go_at_call 13; refine (bump_any H.out HC.out (fun x hx => by have := HW.out.cnt x hx; omega) (by omega)).mono ?_; rintro e w1 ⟨rfl, ⟨R1, hd1, hc1⟩, hfr⟩)
  have H1 := Lib.hid hd1
  have HC1 := Lib.hid hc1
  have hbl : (bumpL ct).length = op.length := by rw [bumpL_len]; exact hW6
  have kcn : w1.cell? ⟨gc, j, none⟩ = some (.int .i64 (n : Int)) := (World.cell?_of_block (hfr gc hgc)).trans hcn
  clear hd1 hc1 H HC hfr hcn hcn'
  have hn0 : (R1 0).n ≤ 100000 := by rw [HC1.out.tn]; first | omega | (rw [bumpL_len]; omega) | (simp [bumpL_len]; omega)
  have hn1 : (R1 1).n ≤ 100000 := by rw [H1.out.tn]; first | omega | (rw [bumpL_len]; omega) | (simp [bumpL_len]; omega)
  have hn2 : (R1 2).n ≤ 100000 := by rw [HC1.out.pn]; first | omega | (rw [bumpL_len]; omega) | (simp [bumpL_len]; omega)
  have hn3 : (R1 3).n ≤ 100000 := by rw [HC1.out.on]; first | omega | (rw [bumpL_len]; omega) | (simp [bumpL_len]; omega)
  have hn4 : (R1 4).n ≤ 100000 := by rw [HC1.out.cn]; first | omega | (rw [bumpL_len]; omega) | (simp [bumpL_len]; omega)
  have hn5 : (R1 5).n ≤ 100000 := by rw [HC1.out.ln]; first | omega | (rw [bumpL_len]; omega) | (simp [bumpL_len]; omega)
  go_upto_region 77 with (fail)
  clear kcn
  have ap0 := blk_cell H1.out.pblk 0 _ rfl
  have afp0 := blk_free H1.out.pblk 0
  go_upto_region 78 with (at_builtin; go_loud (refine wpList_push _ rfl (.tmp 329) (.tmp 333) 22 rfl B 5 iu (.int .u8 0) 1 1 Tryf.underlying22 hiu hu0 hu1 hu2 rfl (by decide) _ _ _ _ rfl (H1.out.own0.alloc _) ⟨w1.heap.size, 0, none⟩ 2 2 [.int .u8 37, .int .u8 (48 + (n : Int))] rfl rfl (news_any (by simp)) (by simp [Value.oneCell']) (by decide) (by unfold maxLen; omega) (by omega) (Nat.le_trans H1.out.Bw (by simp)) ?_; intro g1 c1 w8 hown hgrow hwhere; have HO := Lib.hid hown; have HGw := Lib.hid hgrow; have HWh := Lib.hid hwhere; have hk8 := (H1.out.alloc _).pGrown (i := 0) HGw.out; have kc8 := blk_cell hk8 0 _ rfl; have fc8 := blk_free hk8 0; clear hown hgrow hwhere hk8))
  have H2 := Lib.hid ((H1.out.alloc _).push0 HO.out HGw.out HWh.out)
  have HC2 := Lib.hid (HC1.out.push0x (some ⟨g1, 0, none⟩) c1 2 [37, 48 + (n : Int)] rfl ((R1 0).xs ++ [.int .u8 37, .int .u8 (48 + (n : Int))]) rfl)
  generalize hw9 : World.setCell w8 _ _ = w2 at *
  generalize hR9 : upd R1 _ _ = R2 at H2 HC2
  clear hw9 hR9 HO HGw HWh kc8 fc8 ap0 afp0 H1 HC1
  clear hn0 hn1 hn2 hn3 hn4 hn5
  have hn0 : (R2 0).n ≤ 100000 := by rw [HC2.out.tn]; first | omega | (rw [bumpL_len]; omega) | (simp [bumpL_len]; omega)
  have hn1 : (R2 1).n ≤ 100000 := by rw [H2.out.tn]; first | omega | (rw [bumpL_len]; omega) | (simp [bumpL_len]; omega)
  have hn2 : (R2 2).n ≤ 100000 := by rw [HC2.out.pn]; first | omega | (rw [bumpL_len]; omega) | (simp [bumpL_len]; omega)
  have hn3 : (R2 3).n ≤ 100000 := by rw [HC2.out.on]; first | omega | (rw [bumpL_len]; omega) | (simp [bumpL_len]; omega)
  have hn4 : (R2 4).n ≤ 100000 := by rw [HC2.out.cn]; first | omega | (rw [bumpL_len]; omega) | (simp [bumpL_len]; omega)
  have hn5 : (R2 5).n ≤ 100000 := by rw [HC2.out.ln]; first | omega | (rw [bumpL_len]; omega) | (simp [bumpL_len]; omega)
  have ap1 := blk_cell H2.out.pblk 1 _ rfl
  have afp1 := blk_free H2.out.pblk 1
  go_wp2_with (at_builtin; go_loud (refine wpList_push _ rfl (.tmp 341) (.tmp 344) 32 rfl B 59 ik _ 8 80 Tryf.underlying32 hik ik0 ik1 ik2 rfl (by decide) _ _ _ _ rfl (H2.out.own1.alloc _) ⟨w2.heap.size, 0, none⟩ 1 1 [.int .i64 4, .int .i64 0, .int .i64 0, .bool false, .slice none 0 0, .int .u8 0, .int .i64 (n : Int), .int .i64 0] rfl rfl (news_any (by simp)) (by simp [Value.oneCell']) (by decide) (by unfold maxLen; omega) (by omega) (Nat.le_trans H2.out.Bw (by simp)) ?_; intro g1 c1 w8 hown hgrow hwhere; have HO := Lib.hid hown; have HGw := Lib.hid hgrow; have HWh := Lib.hid hwhere; have hk8 := (H2.out.alloc _).pGrown (i := 1) HGw.out; have kc8 := blk_cell hk8 1 _ rfl; have fc8 := blk_free hk8 1; clear hown hgrow hwhere hk8))
  have H3 := Lib.hid ((H2.out.alloc _).push1 HO.out HGw.out HWh.out ((H2.out.alloc _).toks.append (.one .ref)))
  have HC3 := Lib.hid (HC2.out.push1 ⟨some ⟨g1, 0, none⟩, c1, (R2 1).n + 1, (R2 1).xs ++ [.int .i64 4, .int .i64 0, .int .i64 0, .bool false, .slice none 0 0, .int .u8 0, .int .i64 (n : Int), .int .i64 0]⟩)
  generalize hw9 : World.setCell w8 _ _ = w3 at *
  generalize hR9 : upd R2 _ _ = R3 at H3 HC3
  clear hw9 hR9 HO HGw HWh kc8 fc8 ap1 afp1 H2 HC2
  clear hn0 hn1 hn2 hn3 hn4 hn5
  have hn0 : (R3 0).n ≤ 100000 := by rw [HC3.out.tn]; first | omega | (rw [bumpL_len]; omega) | (simp [bumpL_len]; omega)
  have hn1 : (R3 1).n ≤ 100000 := by rw [H3.out.tn]; first | omega | (rw [bumpL_len]; omega) | (simp [bumpL_len]; omega)
  have hn2 : (R3 2).n ≤ 100000 := by rw [HC3.out.pn]; first | omega | (rw [bumpL_len]; omega) | (simp [bumpL_len]; omega)
  have hn3 : (R3 3).n ≤ 100000 := by rw [HC3.out.on]; first | omega | (rw [bumpL_len]; omega) | (simp [bumpL_len]; omega)
  have hn4 : (R3 4).n ≤ 100000 := by rw [HC3.out.cn]; first | omega | (rw [bumpL_len]; omega) | (simp [bumpL_len]; omega)
  have hn5 : (R3 5).n ≤ 100000 := by rw [HC3.out.ln]; first | omega | (rw [bumpL_len]; omega) | (simp [bumpL_len]; omega)
  exact HN.out _ _ ⟨rfl, rfl, rfl, rfl, rfl⟩ (drel_mk (nc := nc) (ub := ub) (ob := ob) rfl rfl rfl H3.out HC3.out (HW.out.add (t := .ref n) (.ref hn1' hn9 .nil) rfl (fun x e => by cases e; exact HNC.out) rfl (by simp [Tk.txt]) (by simp [unb]) hW7) (by omega) (by omega))
theorem sw_ref_at {w0 wr : World} {B r p d nc ub ob it : Nat} {an tl : Bool} {R : Fin 6 → Rw} {ts : List Tk} {txt : List Int} {ps : List Bool} {op ct cl : List Nat} {Q : Exit → Act → World → Prop}
    (hS : DecS w0 wr B r p d an tl nc R ts) (hC : Cont R txt ps op ct cl) (hW : DWf an nc ts txt ps op ct cl ub it) (hit : it < 4096) (hob : ob ≤ 2)
    (hN : ∀ a' w', DFr r p d a' → DRel w0 B r p d an tl w' (it + 1) a' → Q .normal a' w') {arg m capc gc : Nat} (harg : arg ≤ 31) (hm0 : 0 < m) (hm9 : m ≤ 16) (hgc : blkOf (R 4).ao ≠ some gc) (hcd : ∀ j, j < m → ∃ n : Nat, wr.cell? ⟨gc, j, none⟩ = some (.int .i64 (n : Int)) ∧ n ∈ cl ∧ n ≤ 9 ∧ 1 ≤ n) {a : Act} (hdf : a.defers = []) (hsz : a.tmps.size = 408) (h5 : a.tmps[5]? = some (.pointer (some ⟨r, 0, none⟩))) (h6 : a.tmps[6]? = some (.pointer (some ⟨p, 0, none⟩))) (h7 : a.tmps[7]? = some (.pointer (some ⟨d, 0, none⟩))) (h9 : a.tmps[9]? = some (.int .i64 (ub : Int))) (h10 : a.tmps[10]? = some (.int .i64 (ob : Int))) (h11 : a.tmps[11]? = some (.int .i64 ((it + 1 : Nat) : Int))) (h13 : a.tmps[13]? = some (.int .i64 6)) (h14 : a.tmps[14]? = some (.int .i64 (arg : Int))) (h15 : a.tmps[15]? = some (.slice (some ⟨gc, 0, none⟩) m capc)) : decTail.wp Tryf.prog Q a wr := by
  obtain ⟨f, hfr⟩ := dframe_litA a.tmps hsz h5 h6 h7 h9 h10 h11 h13 h14 h15
  rw [dact_is hdf, hfr]
  exact sw_ref hS hC hW hit hob hN harg hm0 hm9 hgc hcd f


set_option maxRecDepth 1000000 in
set_option maxHeartbeats 40000000 in
theorem sw_brc {w0 wr : World} {B r p d nc ub ob it : Nat} {an tl : Bool} {R : Fin 6 → Rw} {ts : List Tk} {txt : List Int} {ps : List Bool} {op ct cl : List Nat} {Q : Exit → Act → World → Prop}
    (hS : DecS w0 wr B r p d an tl nc R ts) (hC : Cont R txt ps op ct cl) (hW : DWf an nc ts txt ps op ct cl ub it) (hit : it < 4096) (hob : ob ≤ 2)
    (hN : ∀ a' w', DFr r p d a' → DRel w0 B r p d an tl w' (it + 1) a' → Q .normal a' w') {arg : Nat} (v15 : Value) (harg : arg ≤ 31) (f : Nat → Value) :
    decTail.wp Tryf.prog Q { tmps := #[f 0, f 1, f 2, f 3, f 4, .pointer (some ⟨r, 0, none⟩), .pointer (some ⟨p, 0, none⟩), .pointer (some ⟨d, 0, none⟩), f 8, .int .i64 (ub : Int), .int .i64 (ob : Int), .int .i64 ((it + 1 : Nat) : Int), f 12, .int .i64 7, .int .i64 (arg : Int), v15, f 16, f 17, f 18, f 19, f 20, f 21, f 22, f 23, f 24, f 25, f 26, f 27, f 28, f 29, f 30, f 31, f 32, f 33, f 34, f 35, f 36, f 37, f 38, f 39, f 40, f 41, f 42, f 43, f 44, f 45, f 46, f 47, f 48, f 49, f 50, f 51, f 52, f 53, f 54, f 55, f 56, f 57, f 58, f 59, f 60, f 61, f 62, f 63, f 64, f 65, f 66, f 67, f 68, f 69, f 70, f 71, f 72, f 73, f 74, f 75, f 76, f 77, f 78, f 79, f 80, f 81, f 82, f 83, f 84, f 85, f 86, f 87, f 88, f 89, f 90, f 91, f 92, f 93, f 94, f 95, f 96, f 97, f 98, f 99, f 100, f 101, f 102, f 103, f 104, f 105, f 106, f 107, f 108, f 109, f 110, f 111, f 112, f 113, f 114, f 115, f 116, f 117, f 118, f 119, f 120, f 121, f 122, f 123, f 124, f 125, f 126, f 127, f 128, f 129, f 130, f 131, f 132, f 133, f 134, f 135, f 136, f 137, f 138, f 139, f 140, f 141, f 142, f 143, f 144, f 145, f 146, f 147, f 148, f 149, f 150, f 151, f 152, f 153, f 154, f 155, f 156, f 157, f 158, f 159, f 160, f 161, f 162, f 163, f 164, f 165, f 166, f 167, f 168, f 169, f 170, f 171, f 172, f 173, f 174, f 175, f 176, f 177, f 178, f 179, f 180, f 181, f 182, f 183, f 184, f 185, f 186, f 187, f 188, f 189, f 190, f 191, f 192, f 193, f 194, f 195, f 196, f 197, f 198, f 199, f 200, f 201, f 202, f 203, f 204, f 205, f 206, f 207, f 208, f 209, f 210, f 211, f 212, f 213, f 214, f 215, f 216, f 217, f 218, f 219, f 220, f 221, f 222, f 223, f 224, f 225, f 226, f 227, f 228, f 229, f 230, f 231, f 232, f 233, f 234, f 235, f 236, f 237, f 238, f 239, f 240, f 241, f 242, f 243, f 244, f 245, f 246, f 247, f 248, f 249, f 250, f 251, f 252, f 253, f 254, f 255, f 256, f 257, f 258, f 259, f 260, f 261, f 262, f 263, f 264, f 265, f 266, f 267, f 268, f 269, f 270, f 271, f 272, f 273, f 274, f 275, f 276, f 277, f 278, f 279, f 280, f 281, f 282, f 283, f 284, f 285, f 286, f 287, f 288, f 289, f 290, f 291, f 292, f 293, f 294, f 295, f 296, f 297, f 298, f 299, f 300, f 301, f 302, f 303, f 304, f 305, f 306, f 307, f 308, f 309, f 310, f 311, f 312, f 313, f 314, f 315, f 316, f 317, f 318, f 319, f 320, f 321, f 322, f 323, f 324, f 325, f 326, f 327, f 328, f 329, f 330, f 331, f 332, f 333, f 334, f 335, f 336, f 337, f 338, f 339, f 340, f 341, f 342, f 343, f 344, f 345, f 346, f 347, f 348, f 349, f 350, f 351, f 352, f 353, f 354, f 355, f 356, f 357, f 358, f 359, f 360, f 361, f 362, f 363, f 364, f 365, f 366, f 367, f 368, f 369, f 370, f 371, f 372, f 373, f 374, f 375, f 376, f 377, f 378, f 379, f 380, f 381, f 382, f 383, f 384, f 385, f 386, f 387, f 388, f 389, f 390, f 391, f 392, f 393, f 394, f 395, f 396, f 397, f 398, f 399, f 400, f 401, f 402, f 403, f 404, f 405, f 406, f 407], defers := [] } wr := by
  obtain ⟨iu, hiu, hu0, hu1, hu2⟩ := info_parts u8_info
  obtain ⟨ik, hik, ik0, ik1, ik2⟩ := info_parts tok_info
  obtain ⟨ii, hii, hi0, hi1, hi2⟩ := info_parts int_info
  obtain ⟨ib, hib, hb0, hb1, hb2⟩ := info_parts bool_info
  have hW1 := hW.ltx
  have hW2 := hW.lts
  have hW3 := hW.nc12
  have hW4 := hW.op3
  have hW5 := hW.cll
  have hW6 := hW.ctl
  have hW7 := hW.ub2
  have hW8 := hW.psl
  have HN := Lib.hid hN
  have HW := Lib.hid hW
  have H := Lib.hid hS
  have HC := Lib.hid hC
  clear hN hW hS hC
  conv => arg 2; whnf
  obtain ⟨k, hk⟩ : ∃ k, arg % 4 = k := ⟨_, rfl⟩
  have hk4 : k < 4 := by omega
  have htm : Int.tmod (arg : Int) 4 = (k : Int) := by rw [Int.tmod_eq_emod_of_nonneg (by omega), ← hk]; rfl
  have htm2 : (arg : Int) % 4 = (k : Int) := by omega
  have hix1 := fun W => (idx8 k hk4 W).1
  have hix2 := fun W => (idx8 k hk4 W).2
  obtain ⟨z, hz⟩ : ∃ z, brcs4.getD k (0, 0) = z := ⟨_, rfl⟩
  have hzm : z ∈ brcs4 := by rw [← hz, List.getD_eq_getElem?_getD, List.getElem?_eq_getElem (by simpa [brcs4] using hk4)]; exact List.getElem_mem _
  obtain ⟨x, y⟩ := z
  have hzb : 0 ≤ x ∧ x ≤ 255 ∧ 0 ≤ y ∧ y ≤ 255 := by simp only [brcs4, List.mem_cons, Prod.mk.injEq, List.not_mem_nil, or_false] at hzm; omega
  have hz0 := hzb.1
  have hz1 := hzb.2.1
  have hz2 := hzb.2.2.1
  have hz3 := hzb.2.2.2
  have HZM := Lib.hid hzm
  rw [hz] at hix1 hix2
  simp only at hix1 hix2
  clear hk hz hzm hzb
  go_upto_region 81 with (go_at_call 13; refine (bump_any H.out HC.out (fun x hx => by have := HW.out.cnt x hx; omega) (by omega)).mono ?_; rintro e w1 ⟨rfl, ⟨R1, hd1, hc1⟩, hfr⟩)
  have H1 := Lib.hid hd1
  have HC1 := Lib.hid hc1
  have hbl : (bumpL ct).length = op.length := by rw [bumpL_len]; exact hW6
  clear hd1 hc1 H HC hfr
  have hn0 : (R1 0).n ≤ 100000 := by rw [HC1.out.tn]; first | omega | (rw [bumpL_len]; omega) | (simp [bumpL_len]; omega)
  have hn1 : (R1 1).n ≤ 100000 := by rw [H1.out.tn]; first | omega | (rw [bumpL_len]; omega) | (simp [bumpL_len]; omega)
  have hn2 : (R1 2).n ≤ 100000 := by rw [HC1.out.pn]; first | omega | (rw [bumpL_len]; omega) | (simp [bumpL_len]; omega)
  have hn3 : (R1 3).n ≤ 100000 := by rw [HC1.out.on]; first | omega | (rw [bumpL_len]; omega) | (simp [bumpL_len]; omega)
  have hn4 : (R1 4).n ≤ 100000 := by rw [HC1.out.cn]; first | omega | (rw [bumpL_len]; omega) | (simp [bumpL_len]; omega)
  have hn5 : (R1 5).n ≤ 100000 := by rw [HC1.out.ln]; first | omega | (rw [bumpL_len]; omega) | (simp [bumpL_len]; omega)
  go_upto_region 84 with (fail)
  clear hix1 hix2
  have ap0 := blk_cell H1.out.pblk 0 _ rfl
  have afp0 := blk_free H1.out.pblk 0
  go_upto_region 85 with (at_builtin; go_loud (refine wpList_push _ rfl (.tmp 365) (.tmp 368) 22 rfl B 5 iu (.int .u8 0) 1 1 Tryf.underlying22 hiu hu0 hu1 hu2 rfl (by decide) _ _ _ _ rfl (H1.out.own0.alloc _) ⟨w1.heap.size, 0, none⟩ 4 4 [.int .u8 37, .int .u8 98, .int .u8 x, .int .u8 y] rfl rfl (news_any (by simp)) (by simp [Value.oneCell']) (by decide) (by unfold maxLen; omega) (by omega) (Nat.le_trans H1.out.Bw (by simp)) ?_; intro g1 c1 w8 hown hgrow hwhere; have HO := Lib.hid hown; have HGw := Lib.hid hgrow; have HWh := Lib.hid hwhere; have hk8 := (H1.out.alloc _).pGrown (i := 0) HGw.out; have kc8 := blk_cell hk8 0 _ rfl; have fc8 := blk_free hk8 0; clear hown hgrow hwhere hk8))
  have H2 := Lib.hid ((H1.out.alloc _).push0 HO.out HGw.out HWh.out)
  have HC2 := Lib.hid (HC1.out.push0x (some ⟨g1, 0, none⟩) c1 4 [37, 98, x, y] rfl ((R1 0).xs ++ [.int .u8 37, .int .u8 98, .int .u8 x, .int .u8 y]) rfl)
  generalize hw9 : World.setCell w8 _ _ = w2 at *
  generalize hR9 : upd R1 _ _ = R2 at H2 HC2
  clear hw9 hR9 HO HGw HWh kc8 fc8 ap0 afp0 H1 HC1
  clear hn0 hn1 hn2 hn3 hn4 hn5
  have hn0 : (R2 0).n ≤ 100000 := by rw [HC2.out.tn]; first | omega | (rw [bumpL_len]; omega) | (simp [bumpL_len]; omega)
  have hn1 : (R2 1).n ≤ 100000 := by rw [H2.out.tn]; first | omega | (rw [bumpL_len]; omega) | (simp [bumpL_len]; omega)
  have hn2 : (R2 2).n ≤ 100000 := by rw [HC2.out.pn]; first | omega | (rw [bumpL_len]; omega) | (simp [bumpL_len]; omega)
  have hn3 : (R2 3).n ≤ 100000 := by rw [HC2.out.on]; first | omega | (rw [bumpL_len]; omega) | (simp [bumpL_len]; omega)
  have hn4 : (R2 4).n ≤ 100000 := by rw [HC2.out.cn]; first | omega | (rw [bumpL_len]; omega) | (simp [bumpL_len]; omega)
  have hn5 : (R2 5).n ≤ 100000 := by rw [HC2.out.ln]; first | omega | (rw [bumpL_len]; omega) | (simp [bumpL_len]; omega)
  have ap1 := blk_cell H2.out.pblk 1 _ rfl
  have afp1 := blk_free H2.out.pblk 1
  go_wp2_with (at_builtin; go_loud (refine wpList_push _ rfl (.tmp 376) (.tmp 382) 32 rfl B 59 ik _ 8 80 Tryf.underlying32 hik ik0 ik1 ik2 rfl (by decide) _ _ _ _ rfl (H2.out.own1.alloc _) ⟨w2.heap.size, 0, none⟩ 1 1 [.int .i64 5, .int .i64 0, .int .i64 0, .bool false, .slice none 0 0, .int .u8 0, .int .i64 x, .int .i64 y] rfl rfl (news_any (by simp)) (by simp [Value.oneCell']) (by decide) (by unfold maxLen; omega) (by omega) (Nat.le_trans H2.out.Bw (by simp)) ?_; intro g1 c1 w8 hown hgrow hwhere; have HO := Lib.hid hown; have HGw := Lib.hid hgrow; have HWh := Lib.hid hwhere; have hk8 := (H2.out.alloc _).pGrown (i := 1) HGw.out; have kc8 := blk_cell hk8 1 _ rfl; have fc8 := blk_free hk8 1; clear hown hgrow hwhere hk8))
  have H3 := Lib.hid ((H2.out.alloc _).push1 HO.out HGw.out HWh.out ((H2.out.alloc _).toks.append (.one .brc)))
  have HC3 := Lib.hid (HC2.out.push1 ⟨some ⟨g1, 0, none⟩, c1, (R2 1).n + 1, (R2 1).xs ++ [.int .i64 5, .int .i64 0, .int .i64 0, .bool false, .slice none 0 0, .int .u8 0, .int .i64 x, .int .i64 y]⟩)
  generalize hw9 : World.setCell w8 _ _ = w3 at *
  generalize hR9 : upd R2 _ _ = R3 at H3 HC3
  clear hw9 hR9 HO HGw HWh kc8 fc8 ap1 afp1 H2 HC2
  clear hn0 hn1 hn2 hn3 hn4 hn5
  have hn0 : (R3 0).n ≤ 100000 := by rw [HC3.out.tn]; first | omega | (rw [bumpL_len]; omega) | (simp [bumpL_len]; omega)
  have hn1 : (R3 1).n ≤ 100000 := by rw [H3.out.tn]; first | omega | (rw [bumpL_len]; omega) | (simp [bumpL_len]; omega)
  have hn2 : (R3 2).n ≤ 100000 := by rw [HC3.out.pn]; first | omega | (rw [bumpL_len]; omega) | (simp [bumpL_len]; omega)
  have hn3 : (R3 3).n ≤ 100000 := by rw [HC3.out.on]; first | omega | (rw [bumpL_len]; omega) | (simp [bumpL_len]; omega)
  have hn4 : (R3 4).n ≤ 100000 := by rw [HC3.out.cn]; first | omega | (rw [bumpL_len]; omega) | (simp [bumpL_len]; omega)
  have hn5 : (R3 5).n ≤ 100000 := by rw [HC3.out.ln]; first | omega | (rw [bumpL_len]; omega) | (simp [bumpL_len]; omega)
  exact HN.out _ _ ⟨rfl, rfl, rfl, rfl, rfl⟩ (drel_mk (nc := nc) (ub := ub) (ob := ob) rfl rfl rfl H3.out HC3.out (HW.out.add (t := .brc x y) (.brc HZM.out .nil) rfl (fun n e => by cases e) rfl (by simp [Tk.txt]) (by simp [unb]) hW7) (by omega) (by omega))
theorem sw_brc_at {w0 wr : World} {B r p d nc ub ob it : Nat} {an tl : Bool} {R : Fin 6 → Rw} {ts : List Tk} {txt : List Int} {ps : List Bool} {op ct cl : List Nat} {Q : Exit → Act → World → Prop}
    (hS : DecS w0 wr B r p d an tl nc R ts) (hC : Cont R txt ps op ct cl) (hW : DWf an nc ts txt ps op ct cl ub it) (hit : it < 4096) (hob : ob ≤ 2)
    (hN : ∀ a' w', DFr r p d a' → DRel w0 B r p d an tl w' (it + 1) a' → Q .normal a' w') {arg : Nat} (v15 : Value) (harg : arg ≤ 31) {a : Act} (hdf : a.defers = []) (hsz : a.tmps.size = 408) (h5 : a.tmps[5]? = some (.pointer (some ⟨r, 0, none⟩))) (h6 : a.tmps[6]? = some (.pointer (some ⟨p, 0, none⟩))) (h7 : a.tmps[7]? = some (.pointer (some ⟨d, 0, none⟩))) (h9 : a.tmps[9]? = some (.int .i64 (ub : Int))) (h10 : a.tmps[10]? = some (.int .i64 (ob : Int))) (h11 : a.tmps[11]? = some (.int .i64 ((it + 1 : Nat) : Int))) (h13 : a.tmps[13]? = some (.int .i64 7)) (h14 : a.tmps[14]? = some (.int .i64 (arg : Int))) (h15 : a.tmps[15]? = some (v15)) : decTail.wp Tryf.prog Q a wr := by
  obtain ⟨f, hfr⟩ := dframe_litA a.tmps hsz h5 h6 h7 h9 h10 h11 h13 h14 h15
  rw [dact_is hdf, hfr]
  exact sw_brc hS hC hW hit hob hN v15 harg f

end Go.Proofs.YtcfhhcjcnafcjaaFmt
