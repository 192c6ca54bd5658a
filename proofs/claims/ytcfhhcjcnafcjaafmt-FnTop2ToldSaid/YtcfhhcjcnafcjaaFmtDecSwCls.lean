/-
  A case of the switch in the decoder's loop: Cls. Its condition: as its statement says.
-/
import Derived.Test.YtcfhhcjcnafcjaaFmtDecD
import Derived.Test.YtcfhhcjcnafcjaaFmtDecSwCl2
namespace Go.Proofs.YtcfhhcjcnafcjaaFmt
open Go.RowKit
set_option linter.unusedVariables false
set_option linter.unusedSimpArgs false

set_option maxRecDepth 1000000 in
set_option maxHeartbeats 40000000 in
theorem sw_cls {w0 wr : World} {B r p d nc ub ob it : Nat} {an tl : Bool} {R : Fin 6 → Rw} {ts : List Tk} {txt : List Int} {ps : List Bool} {op ct cl : List Nat} {Q : Exit → Act → World → Prop}
    (hS : DecS w0 wr B r p d an tl nc R ts) (hC : Cont R txt ps op ct cl) (hW : DWf an nc ts txt ps op ct cl ub it) (hit : it < 4096) (hob : ob ≤ 2)
    (hN : ∀ a' w', DFr r p d a' → DRel w0 B r p d an tl w' (it + 1) a' → Q .normal a' w') {o arg : Nat} (v15 : Value) (ho : o < 3) (harg : arg ≤ 31) (f : Nat → Value) :
    decTail.wp Tryf.prog Q { tmps := #[f 0, f 1, f 2, f 3, f 4, .pointer (some ⟨r, 0, none⟩), .pointer (some ⟨p, 0, none⟩), .pointer (some ⟨d, 0, none⟩), f 8, .int .i64 (ub : Int), .int .i64 (ob : Int), .int .i64 ((it + 1 : Nat) : Int), f 12, .int .i64 (o : Int), .int .i64 (arg : Int), v15, f 16, f 17, f 18, f 19, f 20, f 21, f 22, f 23, f 24, f 25, f 26, f 27, f 28, f 29, f 30, f 31, f 32, f 33, f 34, f 35, f 36, f 37, f 38, f 39, f 40, f 41, f 42, f 43, f 44, f 45, f 46, f 47, f 48, f 49, f 50, f 51, f 52, f 53, f 54, f 55, f 56, f 57, f 58, f 59, f 60, f 61, f 62, f 63, f 64, f 65, f 66, f 67, f 68, f 69, f 70, f 71, f 72, f 73, f 74, f 75, f 76, f 77, f 78, f 79, f 80, f 81, f 82, f 83, f 84, f 85, f 86, f 87, f 88, f 89, f 90, f 91, f 92, f 93, f 94, f 95, f 96, f 97, f 98, f 99, f 100, f 101, f 102, f 103, f 104, f 105, f 106, f 107, f 108, f 109, f 110, f 111, f 112, f 113, f 114, f 115, f 116, f 117, f 118, f 119, f 120, f 121, f 122, f 123, f 124, f 125, f 126, f 127, f 128, f 129, f 130, f 131, f 132, f 133, f 134, f 135, f 136, f 137, f 138, f 139, f 140, f 141, f 142, f 143, f 144, f 145, f 146, f 147, f 148, f 149, f 150, f 151, f 152, f 153, f 154, f 155, f 156, f 157, f 158, f 159, f 160, f 161, f 162, f 163, f 164, f 165, f 166, f 167, f 168, f 169, f 170, f 171, f 172, f 173, f 174, f 175, f 176, f 177, f 178, f 179, f 180, f 181, f 182, f 183, f 184, f 185, f 186, f 187, f 188, f 189, f 190, f 191, f 192, f 193, f 194, f 195, f 196, f 197, f 198, f 199, f 200, f 201, f 202, f 203, f 204, f 205, f 206, f 207, f 208, f 209, f 210, f 211, f 212, f 213, f 214, f 215, f 216, f 217, f 218, f 219, f 220, f 221, f 222, f 223, f 224, f 225, f 226, f 227, f 228, f 229, f 230, f 231, f 232, f 233, f 234, f 235, f 236, f 237, f 238, f 239, f 240, f 241, f 242, f 243, f 244, f 245, f 246, f 247, f 248, f 249, f 250, f 251, f 252, f 253, f 254, f 255, f 256, f 257, f 258, f 259, f 260, f 261, f 262, f 263, f 264, f 265, f 266, f 267, f 268, f 269, f 270, f 271, f 272, f 273, f 274, f 275, f 276, f 277, f 278, f 279, f 280, f 281, f 282, f 283, f 284, f 285, f 286, f 287, f 288, f 289, f 290, f 291, f 292, f 293, f 294, f 295, f 296, f 297, f 298, f 299, f 300, f 301, f 302, f 303, f 304, f 305, f 306, f 307, f 308, f 309, f 310, f 311, f 312, f 313, f 314, f 315, f 316, f 317, f 318, f 319, f 320, f 321, f 322, f 323, f 324, f 325, f 326, f 327, f 328, f 329, f 330, f 331, f 332, f 333, f 334, f 335, f 336, f 337, f 338, f 339, f 340, f 341, f 342, f 343, f 344, f 345, f 346, f 347, f 348, f 349, f 350, f 351, f 352, f 353, f 354, f 355, f 356, f 357, f 358, f 359, f 360, f 361, f 362, f 363, f 364, f 365, f 366, f 367, f 368, f 369, f 370, f 371, f 372, f 373, f 374, f 375, f 376, f 377, f 378, f 379, f 380, f 381, f 382, f 383, f 384, f 385, f 386, f 387, f 388, f 389, f 390, f 391, f 392, f 393, f 394, f 395, f 396, f 397, f 398, f 399, f 400, f 401, f 402, f 403, f 404, f 405, f 406, f 407], defers := [] } wr := by
  obtain ⟨iu, hiu, hu0, hu1, hu2⟩ := info_parts u8_info
  obtain ⟨ik, hik, ik0, ik1, ik2⟩ := info_parts tok_info
  obtain ⟨ii, hii, hi0, hi1, hi2⟩ := info_parts int_info
  obtain ⟨ib, hib, hb0, hb1, hb2⟩ := info_parts bool_info
  have hW1 := hW.ltx
  have hW2 := hW.lts
  have hW3 := hW.nc12
  have hW4 := hW.op3
  have hW5 := hW.cll
  have hW6 := hW.ctl
  have hW7 := hW.ub2
  have hW8 := hW.psl
  have HN := Lib.hid hN
  have HW := Lib.hid hW
  have H := Lib.hid hS
  have HC := Lib.hid hC
  clear hN hW hS hC
  conv => arg 2; whnf
  have e3 : ((o : Int) == 3) = false := by rw [beq_eq_false_iff_ne]; omega
  have e4 : ((o : Int) == 4) = false := by rw [beq_eq_false_iff_ne]; omega
  have e5 : ((o : Int) == 5) = false := by rw [beq_eq_false_iff_ne]; omega
  have e6 : ((o : Int) == 6) = false := by rw [beq_eq_false_iff_ne]; omega
  have e7 : ((o : Int) == 7) = false := by rw [beq_eq_false_iff_ne]; omega
  go_upto_region 35 with (go_at_call 13; refine (bump_any H.out HC.out (fun x hx => by have := HW.out.cnt x hx; omega) (by omega)).mono ?_; rintro e w1 ⟨rfl, ⟨R1, hd1, hc1⟩, hfr⟩)
  have H1 := Lib.hid hd1
  have HC1 := Lib.hid hc1
  have hbl : (bumpL ct).length = op.length := by rw [bumpL_len]; exact hW6
  clear hd1 hc1 H HC hfr
  have hn0 : (R1 0).n ≤ 100000 := by rw [HC1.out.tn]; first | omega | (rw [bumpL_len]; omega) | (simp [bumpL_len]; omega)
  have hn1 : (R1 1).n ≤ 100000 := by rw [H1.out.tn]; first | omega | (rw [bumpL_len]; omega) | (simp [bumpL_len]; omega)
  have hn2 : (R1 2).n ≤ 100000 := by rw [HC1.out.pn]; first | omega | (rw [bumpL_len]; omega) | (simp [bumpL_len]; omega)
  have hn3 : (R1 3).n ≤ 100000 := by rw [HC1.out.on]; first | omega | (rw [bumpL_len]; omega) | (simp [bumpL_len]; omega)
  have hn4 : (R1 4).n ≤ 100000 := by rw [HC1.out.cn]; first | omega | (rw [bumpL_len]; omega) | (simp [bumpL_len]; omega)
  have hn5 : (R1 5).n ≤ 100000 := by rw [HC1.out.ln]; first | omega | (rw [bumpL_len]; omega) | (simp [bumpL_len]; omega)
  clear e3 e4 e5 e6 e7
  go_upto_region 36 with (go_at_call 15; refine (rdcls_any H1.out.rd H1.out.Bw).mono ?_; rintro e w2 ⟨c, xs, tao, tcap, hcok, hcat, rfl, hrow, hrd, hg⟩; obtain ⟨xa, xb, xn, xao, xl, xcap, rfl⟩ := ck_four hcat)
  have H2 := Lib.hid ((H1.out.call hg hrd).alloc (.cells #[.int .i64 xa, .int .i64 xb, .bool xn, .slice xao xl xcap] 57))
  have HOK := Lib.hid hcok
  have HCK := Lib.hid (ck_base (hcat.kept (fun _ _ _ _ h => blk_alloc h (.cells #[.int .i64 xa, .int .i64 xb, .bool xn, .slice xao xl xcap] 57))) H1.out.Bw)
  have HQB := Lib.hid (blk_new w2 (.cells #[.int .i64 xa, .int .i64 xb, .bool xn, .slice xao xl xcap] 57))
  have HTR := Lib.hid ((owns_base hrow H1.out.Bw).alloc (.cells #[.int .i64 xa, .int .i64 xb, .bool xn, .slice xao xl xcap] 57))
  clear hcok hcat hrow hrd hg H1
  generalize w2.alloc (.cells #[.int .i64 xa, .int .i64 xb, .bool xn, .slice xao xl xcap] 57) = w3 at *
  obtain ⟨k, hk⟩ : ∃ k, arg % 5 = k := ⟨_, rfl⟩
  have hk5 : k = 0 ∨ k = 1 ∨ k = 2 ∨ k = 3 ∨ k = 4 := by omega
  have htm : Int.tmod (arg : Int) 5 = (k : Int) := by rw [Int.tmod_eq_emod_of_nonneg (by omega), ← hk]; rfl
  have htm2 : (arg : Int) % 5 = (k : Int) := by omega
  clear hk
  clear hn0 hn1 hn2 hn3 hn4 hn5
  rcases hk5 with rfl | rfl | rfl | rfl | rfl
  · go_upto_if 164 with (fail)
    rename_i hK
    have HK := Lib.hid hK
    clear hK
    go_wp2_with fail
    refine HK.out _ _ ?_
    refine wp_same (c' := decTail2) (by kernel_rfl) ?_
    refine sw_cl2_at (Q := Exit.inBlock 4 Q) (ub' := ub) (ob' := ob) (q := 0) H2.out HC1.out HW.out hit (fun a' w' h1 h2 => HN.out a' w' h1 h2) (by simp [quants]) (by simp [unb]) (by omega) (by omega) HOK.out HCK.out HQB.out HTR.out ?_ ?_ ?_ ?_ ?_ ?_ ?_ ?_ ?_ ?_ ?_
    all_goals first | rfl | exact dint_is (by omega)
  · by_cases h2 : 2 ≤ ub
    · have t2 : decide ((2 : Int) ≤ (ub : Int)) = true := decide_eq_true (by omega)
      have t2n : decide (2 ≤ ub) = true := decide_eq_true h2
      go_upto_if 164 with (fail)
      rename_i hK
      have HK := Lib.hid hK
      clear hK
      go_wp2_with fail
      refine HK.out _ _ ?_
      refine wp_same (c' := decTail2) (by kernel_rfl) ?_
      refine sw_cl2_at (Q := Exit.inBlock 4 Q) (ub' := ub) (ob' := ob) (q := 0) H2.out HC1.out HW.out hit (fun a' w' h1 h2 => HN.out a' w' h1 h2) (by simp [quants]) (by simp [unb]) (by omega) (by omega) HOK.out HCK.out HQB.out HTR.out ?_ ?_ ?_ ?_ ?_ ?_ ?_ ?_ ?_ ?_ ?_
      all_goals first | rfl | exact dint_is (by omega)
    · have t2 : decide ((2 : Int) ≤ (ub : Int)) = false := decide_eq_false (by omega)
      have t2n : decide (2 ≤ ub) = false := decide_eq_false h2
      go_upto_if 164 with (fail)
      rename_i hK
      have HK := Lib.hid hK
      clear hK
      go_wp2_with fail
      refine HK.out _ _ ?_
      refine wp_same (c' := decTail2) (by kernel_rfl) ?_
      refine sw_cl2_at (Q := Exit.inBlock 4 Q) (ub' := ub + 1) (ob' := ob) (q := 42) H2.out HC1.out HW.out hit (fun a' w' h1 h2 => HN.out a' w' h1 h2) (by simp [quants]) (by simp [unb]) (by omega) (by omega) HOK.out HCK.out HQB.out HTR.out ?_ ?_ ?_ ?_ ?_ ?_ ?_ ?_ ?_ ?_ ?_
      all_goals first | rfl | exact dint_is (by omega)
  · by_cases h2 : 2 ≤ ub
    · have t2 : decide ((2 : Int) ≤ (ub : Int)) = true := decide_eq_true (by omega)
      have t2n : decide (2 ≤ ub) = true := decide_eq_true h2
      go_upto_if 164 with (fail)
      rename_i hK
      have HK := Lib.hid hK
      clear hK
      go_wp2_with fail
      refine HK.out _ _ ?_
      refine wp_same (c' := decTail2) (by kernel_rfl) ?_
      refine sw_cl2_at (Q := Exit.inBlock 4 Q) (ub' := ub) (ob' := ob) (q := 0) H2.out HC1.out HW.out hit (fun a' w' h1 h2 => HN.out a' w' h1 h2) (by simp [quants]) (by simp [unb]) (by omega) (by omega) HOK.out HCK.out HQB.out HTR.out ?_ ?_ ?_ ?_ ?_ ?_ ?_ ?_ ?_ ?_ ?_
      all_goals first | rfl | exact dint_is (by omega)
    · have t2 : decide ((2 : Int) ≤ (ub : Int)) = false := decide_eq_false (by omega)
      have t2n : decide (2 ≤ ub) = false := decide_eq_false h2
      go_upto_if 164 with (fail)
      rename_i hK
      have HK := Lib.hid hK
      clear hK
      go_wp2_with fail
      refine HK.out _ _ ?_
      refine wp_same (c' := decTail2) (by kernel_rfl) ?_
      refine sw_cl2_at (Q := Exit.inBlock 4 Q) (ub' := ub + 1) (ob' := ob) (q := 43) H2.out HC1.out HW.out hit (fun a' w' h1 h2 => HN.out a' w' h1 h2) (by simp [quants]) (by simp [unb]) (by omega) (by omega) HOK.out HCK.out HQB.out HTR.out ?_ ?_ ?_ ?_ ?_ ?_ ?_ ?_ ?_ ?_ ?_
      all_goals first | rfl | exact dint_is (by omega)
  · by_cases h2 : 2 ≤ ub
    · have t2 : decide ((2 : Int) ≤ (ub : Int)) = true := decide_eq_true (by omega)
      have t2n : decide (2 ≤ ub) = true := decide_eq_true h2
      go_upto_if 164 with (fail)
      rename_i hK
      have HK := Lib.hid hK
      clear hK
      go_wp2_with fail
      refine HK.out _ _ ?_
      refine wp_same (c' := decTail2) (by kernel_rfl) ?_
      refine sw_cl2_at (Q := Exit.inBlock 4 Q) (ub' := ub) (ob' := ob) (q := 0) H2.out HC1.out HW.out hit (fun a' w' h1 h2 => HN.out a' w' h1 h2) (by simp [quants]) (by simp [unb]) (by omega) (by omega) HOK.out HCK.out HQB.out HTR.out ?_ ?_ ?_ ?_ ?_ ?_ ?_ ?_ ?_ ?_ ?_
      all_goals first | rfl | exact dint_is (by omega)
    · have t2 : decide ((2 : Int) ≤ (ub : Int)) = false := decide_eq_false (by omega)
      have t2n : decide (2 ≤ ub) = false := decide_eq_false h2
      go_upto_if 164 with (fail)
      rename_i hK
      have HK := Lib.hid hK
      clear hK
      go_wp2_with fail
      refine HK.out _ _ ?_
      refine wp_same (c' := decTail2) (by kernel_rfl) ?_
      refine sw_cl2_at (Q := Exit.inBlock 4 Q) (ub' := ub + 1) (ob' := ob) (q := 45) H2.out HC1.out HW.out hit (fun a' w' h1 h2 => HN.out a' w' h1 h2) (by simp [quants]) (by simp [unb]) (by omega) (by omega) HOK.out HCK.out HQB.out HTR.out ?_ ?_ ?_ ?_ ?_ ?_ ?_ ?_ ?_ ?_ ?_
      all_goals first | rfl | exact dint_is (by omega)
  · by_cases h2 : 2 ≤ ob
    · have t2 : decide ((2 : Int) ≤ (ob : Int)) = true := decide_eq_true (by omega)
      have t2n : decide (2 ≤ ob) = true := decide_eq_true h2
      go_upto_if 164 with (fail)
      rename_i hK
      have HK := Lib.hid hK
      clear hK
      go_wp2_with fail
      refine HK.out _ _ ?_
      refine wp_same (c' := decTail2) (by kernel_rfl) ?_
      refine sw_cl2_at (Q := Exit.inBlock 4 Q) (ub' := ub) (ob' := ob) (q := 0) H2.out HC1.out HW.out hit (fun a' w' h1 h2 => HN.out a' w' h1 h2) (by simp [quants]) (by simp [unb]) (by omega) (by omega) HOK.out HCK.out HQB.out HTR.out ?_ ?_ ?_ ?_ ?_ ?_ ?_ ?_ ?_ ?_ ?_
      all_goals first | rfl | exact dint_is (by omega)
    · have t2 : decide ((2 : Int) ≤ (ob : Int)) = false := decide_eq_false (by omega)
      have t2n : decide (2 ≤ ob) = false := decide_eq_false h2
      go_upto_if 164 with (fail)
      rename_i hK
      have HK := Lib.hid hK
      clear hK
      go_wp2_with fail
      refine HK.out _ _ ?_
      refine wp_same (c' := decTail2) (by kernel_rfl) ?_
      refine sw_cl2_at (Q := Exit.inBlock 4 Q) (ub' := ub) (ob' := ob + 1) (q := 63) H2.out HC1.out HW.out hit (fun a' w' h1 h2 => HN.out a' w' h1 h2) (by simp [quants]) (by simp [unb]) (by omega) (by omega) HOK.out HCK.out HQB.out HTR.out ?_ ?_ ?_ ?_ ?_ ?_ ?_ ?_ ?_ ?_ ?_
      all_goals first | rfl | exact dint_is (by omega)
theorem sw_cls_at {w0 wr : World} {B r p d nc ub ob it : Nat} {an tl : Bool} {R : Fin 6 → Rw} {ts : List Tk} {txt : List Int} {ps : List Bool} {op ct cl : List Nat} {Q : Exit → Act → World → Prop}
    (hS : DecS w0 wr B r p d an tl nc R ts) (hC : Cont R txt ps op ct cl) (hW : DWf an nc ts txt ps op ct cl ub it) (hit : it < 4096) (hob : ob ≤ 2)
    (hN : ∀ a' w', DFr r p d a' → DRel w0 B r p d an tl w' (it + 1) a' → Q .normal a' w') {o arg : Nat} (v15 : Value) (ho : o < 3) (harg : arg ≤ 31) {a : Act} (hdf : a.defers = []) (hsz : a.tmps.size = 408) (h5 : a.tmps[5]? = some (.pointer (some ⟨r, 0, none⟩))) (h6 : a.tmps[6]? = some (.pointer (some ⟨p, 0, none⟩))) (h7 : a.tmps[7]? = some (.pointer (some ⟨d, 0, none⟩))) (h9 : a.tmps[9]? = some (.int .i64 (ub : Int))) (h10 : a.tmps[10]? = some (.int .i64 (ob : Int))) (h11 : a.tmps[11]? = some (.int .i64 ((it + 1 : Nat) : Int))) (h13 : a.tmps[13]? = some (.int .i64 (o : Int))) (h14 : a.tmps[14]? = some (.int .i64 (arg : Int))) (h15 : a.tmps[15]? = some (v15)) : decTail.wp Tryf.prog Q a wr := by
  obtain ⟨f, hfr⟩ := dframe_litA a.tmps hsz h5 h6 h7 h9 h10 h11 h13 h14 h15
  rw [dact_is hdf, hfr]
  exact sw_cls hS hC hW hit hob hN v15 ho harg f
end Go.Proofs.YtcfhhcjcnafcjaaFmt
