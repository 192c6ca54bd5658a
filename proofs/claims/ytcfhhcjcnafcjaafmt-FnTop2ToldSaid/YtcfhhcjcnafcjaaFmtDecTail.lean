/-
  The decoder's loop: a round from its switch on, from its head on. Conditions as each statement says.
-/
import Derived.Test.YtcfhhcjcnafcjaaFmtDecSwOpn
import Derived.Test.YtcfhhcjcnafcjaaFmtDecSwPos
import Derived.Test.YtcfhhcjcnafcjaaFmtSwSmall
import Derived.Test.YtcfhhcjcnafcjaaFmtDecSwCls
import Derived.Deep.LoopGhost
namespace Go.Proofs.YtcfhhcjcnafcjaaFmt
open Go.RowKit
set_option linter.unusedVariables false
set_option linter.unusedSimpArgs false


def startsAt (n : Nat) : Code → Bool
  | .region k _ _ => k == n
  | .seq a _ => startsAt n a
  | _ => false
/-- The rest of a code from the statement on that begins with the region n. -/
def tailGrp (n : Nat) : Code → Option Code
  | .seq a b => if startsAt n a then some (.seq a b) else match tailGrp n a with
    | some c => some c
    | none => tailGrp n b
  | .block _ c => tailGrp n c
  | .scope c => tailGrp n c
  | .loop c => tailGrp n c
  | .cond _ a b => match tailGrp n a with
    | some c => some c
    | none => tailGrp n b
  | _ => none
noncomputable def decMid : Code := (tailGrp 17 decBody).getD .skip
set_option maxRecDepth 1000000 in
theorem dframe_litM (xs : Array Value) (h : xs.size = 408) {v5 v6 v7 v9 v10 v11 v13 v14 : Value} (h5 : xs[5]? = some v5) (h6 : xs[6]? = some v6) (h7 : xs[7]? = some v7) (h9 : xs[9]? = some v9) (h10 : xs[10]? = some v10) (h11 : xs[11]? = some v11) (h13 : xs[13]? = some v13) (h14 : xs[14]? = some v14) : ∃ f : Nat → Value, xs = #[f 0, f 1, f 2, f 3, f 4, v5, v6, v7, f 8, v9, v10, v11, f 12, v13, v14, f 15, f 16, f 17, f 18, f 19, f 20, f 21, f 22, f 23, f 24, f 25, f 26, f 27, f 28, f 29, f 30, f 31, f 32, f 33, f 34, f 35, f 36, f 37, f 38, f 39, f 40, f 41, f 42, f 43, f 44, f 45, f 46, f 47, f 48, f 49, f 50, f 51, f 52, f 53, f 54, f 55, f 56, f 57, f 58, f 59, f 60, f 61, f 62, f 63, f 64, f 65, f 66, f 67, f 68, f 69, f 70, f 71, f 72, f 73, f 74, f 75, f 76, f 77, f 78, f 79, f 80, f 81, f 82, f 83, f 84, f 85, f 86, f 87, f 88, f 89, f 90, f 91, f 92, f 93, f 94, f 95, f 96, f 97, f 98, f 99, f 100, f 101, f 102, f 103, f 104, f 105, f 106, f 107, f 108, f 109, f 110, f 111, f 112, f 113, f 114, f 115, f 116, f 117, f 118, f 119, f 120, f 121, f 122, f 123, f 124, f 125, f 126, f 127, f 128, f 129, f 130, f 131, f 132, f 133, f 134, f 135, f 136, f 137, f 138, f 139, f 140, f 141, f 142, f 143, f 144, f 145, f 146, f 147, f 148, f 149, f 150, f 151, f 152, f 153, f 154, f 155, f 156, f 157, f 158, f 159, f 160, f 161, f 162, f 163, f 164, f 165, f 166, f 167, f 168, f 169, f 170, f 171, f 172, f 173, f 174, f 175, f 176, f 177, f 178, f 179, f 180, f 181, f 182, f 183, f 184, f 185, f 186, f 187, f 188, f 189, f 190, f 191, f 192, f 193, f 194, f 195, f 196, f 197, f 198, f 199, f 200, f 201, f 202, f 203, f 204, f 205, f 206, f 207, f 208, f 209, f 210, f 211, f 212, f 213, f 214, f 215, f 216, f 217, f 218, f 219, f 220, f 221, f 222, f 223, f 224, f 225, f 226, f 227, f 228, f 229, f 230, f 231, f 232, f 233, f 234, f 235, f 236, f 237, f 238, f 239, f 240, f 241, f 242, f 243, f 244, f 245, f 246, f 247, f 248, f 249, f 250, f 251, f 252, f 253, f 254, f 255, f 256, f 257, f 258, f 259, f 260, f 261, f 262, f 263, f 264, f 265, f 266, f 267, f 268, f 269, f 270, f 271, f 272, f 273, f 274, f 275, f 276, f 277, f 278, f 279, f 280, f 281, f 282, f 283, f 284, f 285, f 286, f 287, f 288, f 289, f 290, f 291, f 292, f 293, f 294, f 295, f 296, f 297, f 298, f 299, f 300, f 301, f 302, f 303, f 304, f 305, f 306, f 307, f 308, f 309, f 310, f 311, f 312, f 313, f 314, f 315, f 316, f 317, f 318, f 319, f 320, f 321, f 322, f 323, f 324, f 325, f 326, f 327, f 328, f 329, f 330, f 331, f 332, f 333, f 334, f 335, f 336, f 337, f 338, f 339, f 340, f 341, f 342, f 343, f 344, f 345, f 346, f 347, f 348, f 349, f 350, f 351, f 352, f 353, f 354, f 355, f 356, f 357, f 358, f 359, f 360, f 361, f 362, f 363, f 364, f 365, f 366, f 367, f 368, f 369, f 370, f 371, f 372, f 373, f 374, f 375, f 376, f 377, f 378, f 379, f 380, f 381, f 382, f 383, f 384, f 385, f 386, f 387, f 388, f 389, f 390, f 391, f 392, f 393, f 394, f 395, f 396, f 397, f 398, f 399, f 400, f 401, f 402, f 403, f 404, f 405, f 406, f 407] := by
  have hf : ∀ k, k < 408 → xs[k]? = some (xs.getD k .nilIface) := fun k hk => by
    rw [Array.getD_eq_getD_getElem?, Array.getElem?_eq_getElem (by omega)]; rfl
  refine ⟨fun k => xs.getD k .nilIface, ?_⟩
  have e := (darr_range xs 408 h _ hf).trans (dlit_range _)
  have e5 : xs.getD 5 .nilIface = v5 := by rw [Array.getD_eq_getD_getElem?, h5]; rfl
  have e6 : xs.getD 6 .nilIface = v6 := by rw [Array.getD_eq_getD_getElem?, h6]; rfl
  have e7 : xs.getD 7 .nilIface = v7 := by rw [Array.getD_eq_getD_getElem?, h7]; rfl
  have e9 : xs.getD 9 .nilIface = v9 := by rw [Array.getD_eq_getD_getElem?, h9]; rfl
  have e10 : xs.getD 10 .nilIface = v10 := by rw [Array.getD_eq_getD_getElem?, h10]; rfl
  have e11 : xs.getD 11 .nilIface = v11 := by rw [Array.getD_eq_getD_getElem?, h11]; rfl
  have e13 : xs.getD 13 .nilIface = v13 := by rw [Array.getD_eq_getD_getElem?, h13]; rfl
  have e14 : xs.getD 14 .nilIface = v14 := by rw [Array.getD_eq_getD_getElem?, h14]; rfl
  subst e5 e6 e7 e9 e10 e11 e13 e14
  exact e
set_option maxRecDepth 1000000 in
set_option maxHeartbeats 8000000 in
theorem db_cls0 {w0 w2 : World} {B r p d nc ub ob it o arg : Nat} {an tl : Bool} {R : Fin 6 → Rw} {ts : List Tk} {txt : List Int} {ps : List Bool} {op ct cl : List Nat} {Q : Exit → Act → World → Prop}
    (hS : DecS w0 w2 B r p d an tl nc R ts) (hC : Cont R txt ps op ct cl) (hW : DWf an nc ts txt ps op ct cl ub it) (hit : it < 4096) (hob : ob ≤ 2) (harg : arg ≤ 31)
    (hN : ∀ a' w', DFr r p d a' → DRel w0 B r p d an tl w' (it + 1) a' → Q .normal a' w') (ho3 : o = 0 ∨ o = 1 ∨ o = 2) (f : Nat → Value) :
    decMid.wp Tryf.prog Q { tmps := #[f 0, f 1, f 2, f 3, f 4, .pointer (some ⟨r, 0, none⟩), .pointer (some ⟨p, 0, none⟩), .pointer (some ⟨d, 0, none⟩), f 8, .int .i64 (ub : Int), .int .i64 (ob : Int), .int .i64 ((it + 1 : Nat) : Int), f 12, .int .i64 (o : Int), .int .i64 (arg : Int), f 15, f 16, f 17, f 18, f 19, f 20, f 21, f 22, f 23, f 24, f 25, f 26, f 27, f 28, f 29, f 30, f 31, f 32, f 33, f 34, f 35, f 36, f 37, f 38, f 39, f 40, f 41, f 42, f 43, f 44, f 45, f 46, f 47, f 48, f 49, f 50, f 51, f 52, f 53, f 54, f 55, f 56, f 57, f 58, f 59, f 60, f 61, f 62, f 63, f 64, f 65, f 66, f 67, f 68, f 69, f 70, f 71, f 72, f 73, f 74, f 75, f 76, f 77, f 78, f 79, f 80, f 81, f 82, f 83, f 84, f 85, f 86, f 87, f 88, f 89, f 90, f 91, f 92, f 93, f 94, f 95, f 96, f 97, f 98, f 99, f 100, f 101, f 102, f 103, f 104, f 105, f 106, f 107, f 108, f 109, f 110, f 111, f 112, f 113, f 114, f 115, f 116, f 117, f 118, f 119, f 120, f 121, f 122, f 123, f 124, f 125, f 126, f 127, f 128, f 129, f 130, f 131, f 132, f 133, f 134, f 135, f 136, f 137, f 138, f 139, f 140, f 141, f 142, f 143, f 144, f 145, f 146, f 147, f 148, f 149, f 150, f 151, f 152, f 153, f 154, f 155, f 156, f 157, f 158, f 159, f 160, f 161, f 162, f 163, f 164, f 165, f 166, f 167, f 168, f 169, f 170, f 171, f 172, f 173, f 174, f 175, f 176, f 177, f 178, f 179, f 180, f 181, f 182, f 183, f 184, f 185, f 186, f 187, f 188, f 189, f 190, f 191, f 192, f 193, f 194, f 195, f 196, f 197, f 198, f 199, f 200, f 201, f 202, f 203, f 204, f 205, f 206, f 207, f 208, f 209, f 210, f 211, f 212, f 213, f 214, f 215, f 216, f 217, f 218, f 219, f 220, f 221, f 222, f 223, f 224, f 225, f 226, f 227, f 228, f 229, f 230, f 231, f 232, f 233, f 234, f 235, f 236, f 237, f 238, f 239, f 240, f 241, f 242, f 243, f 244, f 245, f 246, f 247, f 248, f 249, f 250, f 251, f 252, f 253, f 254, f 255, f 256, f 257, f 258, f 259, f 260, f 261, f 262, f 263, f 264, f 265, f 266, f 267, f 268, f 269, f 270, f 271, f 272, f 273, f 274, f 275, f 276, f 277, f 278, f 279, f 280, f 281, f 282, f 283, f 284, f 285, f 286, f 287, f 288, f 289, f 290, f 291, f 292, f 293, f 294, f 295, f 296, f 297, f 298, f 299, f 300, f 301, f 302, f 303, f 304, f 305, f 306, f 307, f 308, f 309, f 310, f 311, f 312, f 313, f 314, f 315, f 316, f 317, f 318, f 319, f 320, f 321, f 322, f 323, f 324, f 325, f 326, f 327, f 328, f 329, f 330, f 331, f 332, f 333, f 334, f 335, f 336, f 337, f 338, f 339, f 340, f 341, f 342, f 343, f 344, f 345, f 346, f 347, f 348, f 349, f 350, f 351, f 352, f 353, f 354, f 355, f 356, f 357, f 358, f 359, f 360, f 361, f 362, f 363, f 364, f 365, f 366, f 367, f 368, f 369, f 370, f 371, f 372, f 373, f 374, f 375, f 376, f 377, f 378, f 379, f 380, f 381, f 382, f 383, f 384, f 385, f 386, f 387, f 388, f 389, f 390, f 391, f 392, f 393, f 394, f 395, f 396, f 397, f 398, f 399, f 400, f 401, f 402, f 403, f 404, f 405, f 406, f 407], defers := [] } w2 := by
  have hW3 := hW.nc12
  have hW4 := hW.op3
  have hW6 := hW.ctl
  have hW7 := hW.ub2
  have kd1 := blk_cell hS.dblk 1 _ rfl
  have kp4 := blk_cell hS.pblk 4 _ rfl
  rw [hC.on] at kd1
  have HKK := Lib.hid hN
  have HW := Lib.hid hW
  have H2 := Lib.hid hS
  have HC := Lib.hid hC
  clear hN hW hS hC
  conv => arg 2; whnf
  rcases ho3 with rfl | rfl | rfl
  · go_upto_if 111 with (fail)
    rename_i hK
    have HK := Lib.hid hK
    clear hK
    go_wp2_with fail
    refine HK.out _ _ ?_
    refine wp_same (c' := decTail) (by kernel_rfl) ?_
    refine sw_cls_at (o := 0) H2.out HC.out HW.out hit hob (fun a' w' h1 h2 => HKK.out a' w' h1 h2) (.slice none 0 0) (by omega) harg ?_ ?_ ?_ ?_ ?_ ?_ ?_ ?_ ?_ ?_ ?_
    all_goals first | rfl | exact dint_is (by omega)
  · go_upto_if 111 with (fail)
    rename_i hK
    have HK := Lib.hid hK
    clear hK
    go_wp2_with fail
    refine HK.out _ _ ?_
    refine wp_same (c' := decTail) (by kernel_rfl) ?_
    refine sw_cls_at (o := 1) H2.out HC.out HW.out hit hob (fun a' w' h1 h2 => HKK.out a' w' h1 h2) (.slice none 0 0) (by omega) harg ?_ ?_ ?_ ?_ ?_ ?_ ?_ ?_ ?_ ?_ ?_
    all_goals first | rfl | exact dint_is (by omega)
  · go_upto_if 111 with (fail)
    rename_i hK
    have HK := Lib.hid hK
    clear hK
    go_wp2_with fail
    refine HK.out _ _ ?_
    refine wp_same (c' := decTail) (by kernel_rfl) ?_
    refine sw_cls_at (o := 2) H2.out HC.out HW.out hit hob (fun a' w' h1 h2 => HKK.out a' w' h1 h2) (.slice none 0 0) (by omega) harg ?_ ?_ ?_ ?_ ?_ ?_ ?_ ?_ ?_ ?_ ?_
    all_goals first | rfl | exact dint_is (by omega)
theorem db_cls0_at {w0 w2 : World} {B r p d nc ub ob it o arg : Nat} {an tl : Bool} {R : Fin 6 → Rw} {ts : List Tk} {txt : List Int} {ps : List Bool} {op ct cl : List Nat} {Q : Exit → Act → World → Prop}
    (hS : DecS w0 w2 B r p d an tl nc R ts) (hC : Cont R txt ps op ct cl) (hW : DWf an nc ts txt ps op ct cl ub it) (hit : it < 4096) (hob : ob ≤ 2) (harg : arg ≤ 31)
    (hN : ∀ a' w', DFr r p d a' → DRel w0 B r p d an tl w' (it + 1) a' → Q .normal a' w') (ho3 : o = 0 ∨ o = 1 ∨ o = 2) {a : Act} (hdf : a.defers = []) (hsz : a.tmps.size = 408) (h5 : a.tmps[5]? = some (.pointer (some ⟨r, 0, none⟩))) (h6 : a.tmps[6]? = some (.pointer (some ⟨p, 0, none⟩))) (h7 : a.tmps[7]? = some (.pointer (some ⟨d, 0, none⟩))) (h9 : a.tmps[9]? = some (.int .i64 (ub : Int))) (h10 : a.tmps[10]? = some (.int .i64 (ob : Int))) (h11 : a.tmps[11]? = some (.int .i64 ((it + 1 : Nat) : Int))) (h13 : a.tmps[13]? = some (.int .i64 (o : Int))) (h14 : a.tmps[14]? = some (.int .i64 (arg : Int))) : decMid.wp Tryf.prog Q a w2 := by
  obtain ⟨f, hfr⟩ := dframe_litM a.tmps hsz h5 h6 h7 h9 h10 h11 h13 h14
  rw [dact_is hdf, hfr]
  exact db_cls0 hS hC hW hit hob harg hN ho3 f
set_option maxRecDepth 1000000 in
set_option maxHeartbeats 8000000 in
theorem db_opn {w0 w2 : World} {B r p d nc ub ob it o arg : Nat} {an tl : Bool} {R : Fin 6 → Rw} {ts : List Tk} {txt : List Int} {ps : List Bool} {op ct cl : List Nat} {Q : Exit → Act → World → Prop}
    (hS : DecS w0 w2 B r p d an tl nc R ts) (hC : Cont R txt ps op ct cl) (hW : DWf an nc ts txt ps op ct cl ub it) (hit : it < 4096) (hob : ob ≤ 2) (harg : arg ≤ 31)
    (hN : ∀ a' w', DFr r p d a' → DRel w0 B r p d an tl w' (it + 1) a' → Q .normal a' w') (ho3 : o = 3) (f : Nat → Value) :
    decMid.wp Tryf.prog Q { tmps := #[f 0, f 1, f 2, f 3, f 4, .pointer (some ⟨r, 0, none⟩), .pointer (some ⟨p, 0, none⟩), .pointer (some ⟨d, 0, none⟩), f 8, .int .i64 (ub : Int), .int .i64 (ob : Int), .int .i64 ((it + 1 : Nat) : Int), f 12, .int .i64 (o : Int), .int .i64 (arg : Int), f 15, f 16, f 17, f 18, f 19, f 20, f 21, f 22, f 23, f 24, f 25, f 26, f 27, f 28, f 29, f 30, f 31, f 32, f 33, f 34, f 35, f 36, f 37, f 38, f 39, f 40, f 41, f 42, f 43, f 44, f 45, f 46, f 47, f 48, f 49, f 50, f 51, f 52, f 53, f 54, f 55, f 56, f 57, f 58, f 59, f 60, f 61, f 62, f 63, f 64, f 65, f 66, f 67, f 68, f 69, f 70, f 71, f 72, f 73, f 74, f 75, f 76, f 77, f 78, f 79, f 80, f 81, f 82, f 83, f 84, f 85, f 86, f 87, f 88, f 89, f 90, f 91, f 92, f 93, f 94, f 95, f 96, f 97, f 98, f 99, f 100, f 101, f 102, f 103, f 104, f 105, f 106, f 107, f 108, f 109, f 110, f 111, f 112, f 113, f 114, f 115, f 116, f 117, f 118, f 119, f 120, f 121, f 122, f 123, f 124, f 125, f 126, f 127, f 128, f 129, f 130, f 131, f 132, f 133, f 134, f 135, f 136, f 137, f 138, f 139, f 140, f 141, f 142, f 143, f 144, f 145, f 146, f 147, f 148, f 149, f 150, f 151, f 152, f 153, f 154, f 155, f 156, f 157, f 158, f 159, f 160, f 161, f 162, f 163, f 164, f 165, f 166, f 167, f 168, f 169, f 170, f 171, f 172, f 173, f 174, f 175, f 176, f 177, f 178, f 179, f 180, f 181, f 182, f 183, f 184, f 185, f 186, f 187, f 188, f 189, f 190, f 191, f 192, f 193, f 194, f 195, f 196, f 197, f 198, f 199, f 200, f 201, f 202, f 203, f 204, f 205, f 206, f 207, f 208, f 209, f 210, f 211, f 212, f 213, f 214, f 215, f 216, f 217, f 218, f 219, f 220, f 221, f 222, f 223, f 224, f 225, f 226, f 227, f 228, f 229, f 230, f 231, f 232, f 233, f 234, f 235, f 236, f 237, f 238, f 239, f 240, f 241, f 242, f 243, f 244, f 245, f 246, f 247, f 248, f 249, f 250, f 251, f 252, f 253, f 254, f 255, f 256, f 257, f 258, f 259, f 260, f 261, f 262, f 263, f 264, f 265, f 266, f 267, f 268, f 269, f 270, f 271, f 272, f 273, f 274, f 275, f 276, f 277, f 278, f 279, f 280, f 281, f 282, f 283, f 284, f 285, f 286, f 287, f 288, f 289, f 290, f 291, f 292, f 293, f 294, f 295, f 296, f 297, f 298, f 299, f 300, f 301, f 302, f 303, f 304, f 305, f 306, f 307, f 308, f 309, f 310, f 311, f 312, f 313, f 314, f 315, f 316, f 317, f 318, f 319, f 320, f 321, f 322, f 323, f 324, f 325, f 326, f 327, f 328, f 329, f 330, f 331, f 332, f 333, f 334, f 335, f 336, f 337, f 338, f 339, f 340, f 341, f 342, f 343, f 344, f 345, f 346, f 347, f 348, f 349, f 350, f 351, f 352, f 353, f 354, f 355, f 356, f 357, f 358, f 359, f 360, f 361, f 362, f 363, f 364, f 365, f 366, f 367, f 368, f 369, f 370, f 371, f 372, f 373, f 374, f 375, f 376, f 377, f 378, f 379, f 380, f 381, f 382, f 383, f 384, f 385, f 386, f 387, f 388, f 389, f 390, f 391, f 392, f 393, f 394, f 395, f 396, f 397, f 398, f 399, f 400, f 401, f 402, f 403, f 404, f 405, f 406, f 407], defers := [] } w2 := by
  have hW3 := hW.nc12
  have hW4 := hW.op3
  have hW6 := hW.ctl
  have hW7 := hW.ub2
  have kd1 := blk_cell hS.dblk 1 _ rfl
  have kp4 := blk_cell hS.pblk 4 _ rfl
  rw [hC.on] at kd1
  have HKK := Lib.hid hN
  have HW := Lib.hid hW
  have H2 := Lib.hid hS
  have HC := Lib.hid hC
  clear hN hW hS hC
  conv => arg 2; whnf
  subst ho3
  by_cases h3 : 3 ≤ op.length
  · have t3 : decide (3 ≤ (op.length : Int)) = true := decide_eq_true (by omega)
    have t3n : decide (3 ≤ op.length) = true := decide_eq_true (by omega)
    go_upto_if 111 with (fail)
    rename_i hK
    have HK := Lib.hid hK
    clear hK
    go_wp2_with fail
    refine HK.out _ _ ?_
    refine wp_same (c' := decTail) (by kernel_rfl) ?_
    refine sw_cls_at (o := 0) H2.out HC.out HW.out hit hob (fun a' w' h1 h2 => HKK.out a' w' h1 h2) (.slice none 0 0) (by omega) harg ?_ ?_ ?_ ?_ ?_ ?_ ?_ ?_ ?_ ?_ ?_
    all_goals first | rfl | exact dint_is (by omega)
  · have t3 : decide (3 ≤ (op.length : Int)) = false := decide_eq_false (by omega)
    have t3n : decide (3 ≤ op.length) = false := decide_eq_false (by omega)
    by_cases h12 : 12 ≤ nc
    · have t12 : decide (12 ≤ (nc : Int)) = true := decide_eq_true (by omega)
      have t12n : decide (12 ≤ nc) = true := decide_eq_true (by omega)
      go_upto_if 111 with (fail)
      rename_i hK
      have HK := Lib.hid hK
      clear hK
      go_wp2_with fail
      refine HK.out _ _ ?_
      refine wp_same (c' := decTail) (by kernel_rfl) ?_
      refine sw_cls_at (o := 0) H2.out HC.out HW.out hit hob (fun a' w' h1 h2 => HKK.out a' w' h1 h2) (.slice none 0 0) (by omega) harg ?_ ?_ ?_ ?_ ?_ ?_ ?_ ?_ ?_ ?_ ?_
      all_goals first | rfl | exact dint_is (by omega)
    · have t12 : decide (12 ≤ (nc : Int)) = false := decide_eq_false (by omega)
      have t12n : decide (12 ≤ nc) = false := decide_eq_false (by omega)
      go_upto_if 111 with (fail)
      rename_i hK
      have HK := Lib.hid hK
      clear hK
      go_wp2_with fail
      refine HK.out _ _ ?_
      refine wp_same (c' := decTail) (by kernel_rfl) ?_
      refine sw_opn_at (arg := arg) H2.out HC.out HW.out hit hob (fun a' w' h1 h2 => HKK.out a' w' h1 h2) (.slice none 0 0) (by omega) (by omega) ?_ ?_ ?_ ?_ ?_ ?_ ?_ ?_ ?_ ?_ ?_
      all_goals first | rfl | exact dint_is (by omega)
theorem db_opn_at {w0 w2 : World} {B r p d nc ub ob it o arg : Nat} {an tl : Bool} {R : Fin 6 → Rw} {ts : List Tk} {txt : List Int} {ps : List Bool} {op ct cl : List Nat} {Q : Exit → Act → World → Prop}
    (hS : DecS w0 w2 B r p d an tl nc R ts) (hC : Cont R txt ps op ct cl) (hW : DWf an nc ts txt ps op ct cl ub it) (hit : it < 4096) (hob : ob ≤ 2) (harg : arg ≤ 31)
    (hN : ∀ a' w', DFr r p d a' → DRel w0 B r p d an tl w' (it + 1) a' → Q .normal a' w') (ho3 : o = 3) {a : Act} (hdf : a.defers = []) (hsz : a.tmps.size = 408) (h5 : a.tmps[5]? = some (.pointer (some ⟨r, 0, none⟩))) (h6 : a.tmps[6]? = some (.pointer (some ⟨p, 0, none⟩))) (h7 : a.tmps[7]? = some (.pointer (some ⟨d, 0, none⟩))) (h9 : a.tmps[9]? = some (.int .i64 (ub : Int))) (h10 : a.tmps[10]? = some (.int .i64 (ob : Int))) (h11 : a.tmps[11]? = some (.int .i64 ((it + 1 : Nat) : Int))) (h13 : a.tmps[13]? = some (.int .i64 (o : Int))) (h14 : a.tmps[14]? = some (.int .i64 (arg : Int))) : decMid.wp Tryf.prog Q a w2 := by
  obtain ⟨f, hfr⟩ := dframe_litM a.tmps hsz h5 h6 h7 h9 h10 h11 h13 h14
  rw [dact_is hdf, hfr]
  exact db_opn hS hC hW hit hob harg hN ho3 f
set_option maxRecDepth 1000000 in
set_option maxHeartbeats 8000000 in
theorem db_pos {w0 w2 : World} {B r p d nc ub ob it o arg : Nat} {an tl : Bool} {R : Fin 6 → Rw} {ts : List Tk} {txt : List Int} {ps : List Bool} {op ct cl : List Nat} {Q : Exit → Act → World → Prop}
    (hS : DecS w0 w2 B r p d an tl nc R ts) (hC : Cont R txt ps op ct cl) (hW : DWf an nc ts txt ps op ct cl ub it) (hit : it < 4096) (hob : ob ≤ 2) (harg : arg ≤ 31)
    (hN : ∀ a' w', DFr r p d a' → DRel w0 B r p d an tl w' (it + 1) a' → Q .normal a' w') (ho3 : o = 5) (f : Nat → Value) :
    decMid.wp Tryf.prog Q { tmps := #[f 0, f 1, f 2, f 3, f 4, .pointer (some ⟨r, 0, none⟩), .pointer (some ⟨p, 0, none⟩), .pointer (some ⟨d, 0, none⟩), f 8, .int .i64 (ub : Int), .int .i64 (ob : Int), .int .i64 ((it + 1 : Nat) : Int), f 12, .int .i64 (o : Int), .int .i64 (arg : Int), f 15, f 16, f 17, f 18, f 19, f 20, f 21, f 22, f 23, f 24, f 25, f 26, f 27, f 28, f 29, f 30, f 31, f 32, f 33, f 34, f 35, f 36, f 37, f 38, f 39, f 40, f 41, f 42, f 43, f 44, f 45, f 46, f 47, f 48, f 49, f 50, f 51, f 52, f 53, f 54, f 55, f 56, f 57, f 58, f 59, f 60, f 61, f 62, f 63, f 64, f 65, f 66, f 67, f 68, f 69, f 70, f 71, f 72, f 73, f 74, f 75, f 76, f 77, f 78, f 79, f 80, f 81, f 82, f 83, f 84, f 85, f 86, f 87, f 88, f 89, f 90, f 91, f 92, f 93, f 94, f 95, f 96, f 97, f 98, f 99, f 100, f 101, f 102, f 103, f 104, f 105, f 106, f 107, f 108, f 109, f 110, f 111, f 112, f 113, f 114, f 115, f 116, f 117, f 118, f 119, f 120, f 121, f 122, f 123, f 124, f 125, f 126, f 127, f 128, f 129, f 130, f 131, f 132, f 133, f 134, f 135, f 136, f 137, f 138, f 139, f 140, f 141, f 142, f 143, f 144, f 145, f 146, f 147, f 148, f 149, f 150, f 151, f 152, f 153, f 154, f 155, f 156, f 157, f 158, f 159, f 160, f 161, f 162, f 163, f 164, f 165, f 166, f 167, f 168, f 169, f 170, f 171, f 172, f 173, f 174, f 175, f 176, f 177, f 178, f 179, f 180, f 181, f 182, f 183, f 184, f 185, f 186, f 187, f 188, f 189, f 190, f 191, f 192, f 193, f 194, f 195, f 196, f 197, f 198, f 199, f 200, f 201, f 202, f 203, f 204, f 205, f 206, f 207, f 208, f 209, f 210, f 211, f 212, f 213, f 214, f 215, f 216, f 217, f 218, f 219, f 220, f 221, f 222, f 223, f 224, f 225, f 226, f 227, f 228, f 229, f 230, f 231, f 232, f 233, f 234, f 235, f 236, f 237, f 238, f 239, f 240, f 241, f 242, f 243, f 244, f 245, f 246, f 247, f 248, f 249, f 250, f 251, f 252, f 253, f 254, f 255, f 256, f 257, f 258, f 259, f 260, f 261, f 262, f 263, f 264, f 265, f 266, f 267, f 268, f 269, f 270, f 271, f 272, f 273, f 274, f 275, f 276, f 277, f 278, f 279, f 280, f 281, f 282, f 283, f 284, f 285, f 286, f 287, f 288, f 289, f 290, f 291, f 292, f 293, f 294, f 295, f 296, f 297, f 298, f 299, f 300, f 301, f 302, f 303, f 304, f 305, f 306, f 307, f 308, f 309, f 310, f 311, f 312, f 313, f 314, f 315, f 316, f 317, f 318, f 319, f 320, f 321, f 322, f 323, f 324, f 325, f 326, f 327, f 328, f 329, f 330, f 331, f 332, f 333, f 334, f 335, f 336, f 337, f 338, f 339, f 340, f 341, f 342, f 343, f 344, f 345, f 346, f 347, f 348, f 349, f 350, f 351, f 352, f 353, f 354, f 355, f 356, f 357, f 358, f 359, f 360, f 361, f 362, f 363, f 364, f 365, f 366, f 367, f 368, f 369, f 370, f 371, f 372, f 373, f 374, f 375, f 376, f 377, f 378, f 379, f 380, f 381, f 382, f 383, f 384, f 385, f 386, f 387, f 388, f 389, f 390, f 391, f 392, f 393, f 394, f 395, f 396, f 397, f 398, f 399, f 400, f 401, f 402, f 403, f 404, f 405, f 406, f 407], defers := [] } w2 := by
  have hW3 := hW.nc12
  have hW4 := hW.op3
  have hW6 := hW.ctl
  have hW7 := hW.ub2
  have kd1 := blk_cell hS.dblk 1 _ rfl
  have kp4 := blk_cell hS.pblk 4 _ rfl
  rw [hC.on] at kd1
  have HKK := Lib.hid hN
  have HW := Lib.hid hW
  have H2 := Lib.hid hS
  have HC := Lib.hid hC
  clear hN hW hS hC
  conv => arg 2; whnf
  subst ho3
  by_cases h12 : 12 ≤ nc
  · have t12 : decide (12 ≤ (nc : Int)) = true := decide_eq_true (by omega)
    have t12n : decide (12 ≤ nc) = true := decide_eq_true (by omega)
    go_upto_if 111 with (fail)
    rename_i hK
    have HK := Lib.hid hK
    clear hK
    go_wp2_with fail
    refine HK.out _ _ ?_
    refine wp_same (c' := decTail) (by kernel_rfl) ?_
    refine sw_cls_at (o := 2) H2.out HC.out HW.out hit hob (fun a' w' h1 h2 => HKK.out a' w' h1 h2) (.slice none 0 0) (by omega) harg ?_ ?_ ?_ ?_ ?_ ?_ ?_ ?_ ?_ ?_ ?_
    all_goals first | rfl | exact dint_is (by omega)
  · have t12 : decide (12 ≤ (nc : Int)) = false := decide_eq_false (by omega)
    have t12n : decide (12 ≤ nc) = false := decide_eq_false (by omega)
    go_upto_if 111 with (fail)
    rename_i hK
    have HK := Lib.hid hK
    clear hK
    go_wp2_with fail
    refine HK.out _ _ ?_
    refine wp_same (c' := decTail) (by kernel_rfl) ?_
    refine sw_pos_at (arg := arg) H2.out HC.out HW.out hit hob (fun a' w' h1 h2 => HKK.out a' w' h1 h2) (.slice none 0 0) (by omega) ?_ ?_ ?_ ?_ ?_ ?_ ?_ ?_ ?_ ?_ ?_
    all_goals first | rfl | exact dint_is (by omega)
theorem db_pos_at {w0 w2 : World} {B r p d nc ub ob it o arg : Nat} {an tl : Bool} {R : Fin 6 → Rw} {ts : List Tk} {txt : List Int} {ps : List Bool} {op ct cl : List Nat} {Q : Exit → Act → World → Prop}
    (hS : DecS w0 w2 B r p d an tl nc R ts) (hC : Cont R txt ps op ct cl) (hW : DWf an nc ts txt ps op ct cl ub it) (hit : it < 4096) (hob : ob ≤ 2) (harg : arg ≤ 31)
    (hN : ∀ a' w', DFr r p d a' → DRel w0 B r p d an tl w' (it + 1) a' → Q .normal a' w') (ho3 : o = 5) {a : Act} (hdf : a.defers = []) (hsz : a.tmps.size = 408) (h5 : a.tmps[5]? = some (.pointer (some ⟨r, 0, none⟩))) (h6 : a.tmps[6]? = some (.pointer (some ⟨p, 0, none⟩))) (h7 : a.tmps[7]? = some (.pointer (some ⟨d, 0, none⟩))) (h9 : a.tmps[9]? = some (.int .i64 (ub : Int))) (h10 : a.tmps[10]? = some (.int .i64 (ob : Int))) (h11 : a.tmps[11]? = some (.int .i64 ((it + 1 : Nat) : Int))) (h13 : a.tmps[13]? = some (.int .i64 (o : Int))) (h14 : a.tmps[14]? = some (.int .i64 (arg : Int))) : decMid.wp Tryf.prog Q a w2 := by
  obtain ⟨f, hfr⟩ := dframe_litM a.tmps hsz h5 h6 h7 h9 h10 h11 h13 h14
  rw [dact_is hdf, hfr]
  exact db_pos hS hC hW hit hob harg hN ho3 f
set_option maxRecDepth 1000000 in
set_option maxHeartbeats 8000000 in
theorem db_brc {w0 w2 : World} {B r p d nc ub ob it o arg : Nat} {an tl : Bool} {R : Fin 6 → Rw} {ts : List Tk} {txt : List Int} {ps : List Bool} {op ct cl : List Nat} {Q : Exit → Act → World → Prop}
    (hS : DecS w0 w2 B r p d an tl nc R ts) (hC : Cont R txt ps op ct cl) (hW : DWf an nc ts txt ps op ct cl ub it) (hit : it < 4096) (hob : ob ≤ 2) (harg : arg ≤ 31)
    (hN : ∀ a' w', DFr r p d a' → DRel w0 B r p d an tl w' (it + 1) a' → Q .normal a' w') (ho3 : o = 7) (f : Nat → Value) :
    decMid.wp Tryf.prog Q { tmps := #[f 0, f 1, f 2, f 3, f 4, .pointer (some ⟨r, 0, none⟩), .pointer (some ⟨p, 0, none⟩), .pointer (some ⟨d, 0, none⟩), f 8, .int .i64 (ub : Int), .int .i64 (ob : Int), .int .i64 ((it + 1 : Nat) : Int), f 12, .int .i64 (o : Int), .int .i64 (arg : Int), f 15, f 16, f 17, f 18, f 19, f 20, f 21, f 22, f 23, f 24, f 25, f 26, f 27, f 28, f 29, f 30, f 31, f 32, f 33, f 34, f 35, f 36, f 37, f 38, f 39, f 40, f 41, f 42, f 43, f 44, f 45, f 46, f 47, f 48, f 49, f 50, f 51, f 52, f 53, f 54, f 55, f 56, f 57, f 58, f 59, f 60, f 61, f 62, f 63, f 64, f 65, f 66, f 67, f 68, f 69, f 70, f 71, f 72, f 73, f 74, f 75, f 76, f 77, f 78, f 79, f 80, f 81, f 82, f 83, f 84, f 85, f 86, f 87, f 88, f 89, f 90, f 91, f 92, f 93, f 94, f 95, f 96, f 97, f 98, f 99, f 100, f 101, f 102, f 103, f 104, f 105, f 106, f 107, f 108, f 109, f 110, f 111, f 112, f 113, f 114, f 115, f 116, f 117, f 118, f 119, f 120, f 121, f 122, f 123, f 124, f 125, f 126, f 127, f 128, f 129, f 130, f 131, f 132, f 133, f 134, f 135, f 136, f 137, f 138, f 139, f 140, f 141, f 142, f 143, f 144, f 145, f 146, f 147, f 148, f 149, f 150, f 151, f 152, f 153, f 154, f 155, f 156, f 157, f 158, f 159, f 160, f 161, f 162, f 163, f 164, f 165, f 166, f 167, f 168, f 169, f 170, f 171, f 172, f 173, f 174, f 175, f 176, f 177, f 178, f 179, f 180, f 181, f 182, f 183, f 184, f 185, f 186, f 187, f 188, f 189, f 190, f 191, f 192, f 193, f 194, f 195, f 196, f 197, f 198, f 199, f 200, f 201, f 202, f 203, f 204, f 205, f 206, f 207, f 208, f 209, f 210, f 211, f 212, f 213, f 214, f 215, f 216, f 217, f 218, f 219, f 220, f 221, f 222, f 223, f 224, f 225, f 226, f 227, f 228, f 229, f 230, f 231, f 232, f 233, f 234, f 235, f 236, f 237, f 238, f 239, f 240, f 241, f 242, f 243, f 244, f 245, f 246, f 247, f 248, f 249, f 250, f 251, f 252, f 253, f 254, f 255, f 256, f 257, f 258, f 259, f 260, f 261, f 262, f 263, f 264, f 265, f 266, f 267, f 268, f 269, f 270, f 271, f 272, f 273, f 274, f 275, f 276, f 277, f 278, f 279, f 280, f 281, f 282, f 283, f 284, f 285, f 286, f 287, f 288, f 289, f 290, f 291, f 292, f 293, f 294, f 295, f 296, f 297, f 298, f 299, f 300, f 301, f 302, f 303, f 304, f 305, f 306, f 307, f 308, f 309, f 310, f 311, f 312, f 313, f 314, f 315, f 316, f 317, f 318, f 319, f 320, f 321, f 322, f 323, f 324, f 325, f 326, f 327, f 328, f 329, f 330, f 331, f 332, f 333, f 334, f 335, f 336, f 337, f 338, f 339, f 340, f 341, f 342, f 343, f 344, f 345, f 346, f 347, f 348, f 349, f 350, f 351, f 352, f 353, f 354, f 355, f 356, f 357, f 358, f 359, f 360, f 361, f 362, f 363, f 364, f 365, f 366, f 367, f 368, f 369, f 370, f 371, f 372, f 373, f 374, f 375, f 376, f 377, f 378, f 379, f 380, f 381, f 382, f 383, f 384, f 385, f 386, f 387, f 388, f 389, f 390, f 391, f 392, f 393, f 394, f 395, f 396, f 397, f 398, f 399, f 400, f 401, f 402, f 403, f 404, f 405, f 406, f 407], defers := [] } w2 := by
  have hW3 := hW.nc12
  have hW4 := hW.op3
  have hW6 := hW.ctl
  have hW7 := hW.ub2
  have kd1 := blk_cell hS.dblk 1 _ rfl
  have kp4 := blk_cell hS.pblk 4 _ rfl
  rw [hC.on] at kd1
  have HKK := Lib.hid hN
  have HW := Lib.hid hW
  have H2 := Lib.hid hS
  have HC := Lib.hid hC
  clear hN hW hS hC
  conv => arg 2; whnf
  subst ho3
  go_upto_if 111 with (fail)
  rename_i hK
  have HK := Lib.hid hK
  clear hK
  go_wp2_with fail
  refine HK.out _ _ ?_
  refine wp_same (c' := decTail) (by kernel_rfl) ?_
  refine sw_brc_at  H2.out HC.out HW.out hit hob (fun a' w' h1 h2 => HKK.out a' w' h1 h2) (.slice none 0 0) harg ?_ ?_ ?_ ?_ ?_ ?_ ?_ ?_ ?_ ?_ ?_
  all_goals first | rfl | exact dint_is (by omega)
theorem db_brc_at {w0 w2 : World} {B r p d nc ub ob it o arg : Nat} {an tl : Bool} {R : Fin 6 → Rw} {ts : List Tk} {txt : List Int} {ps : List Bool} {op ct cl : List Nat} {Q : Exit → Act → World → Prop}
    (hS : DecS w0 w2 B r p d an tl nc R ts) (hC : Cont R txt ps op ct cl) (hW : DWf an nc ts txt ps op ct cl ub it) (hit : it < 4096) (hob : ob ≤ 2) (harg : arg ≤ 31)
    (hN : ∀ a' w', DFr r p d a' → DRel w0 B r p d an tl w' (it + 1) a' → Q .normal a' w') (ho3 : o = 7) {a : Act} (hdf : a.defers = []) (hsz : a.tmps.size = 408) (h5 : a.tmps[5]? = some (.pointer (some ⟨r, 0, none⟩))) (h6 : a.tmps[6]? = some (.pointer (some ⟨p, 0, none⟩))) (h7 : a.tmps[7]? = some (.pointer (some ⟨d, 0, none⟩))) (h9 : a.tmps[9]? = some (.int .i64 (ub : Int))) (h10 : a.tmps[10]? = some (.int .i64 (ob : Int))) (h11 : a.tmps[11]? = some (.int .i64 ((it + 1 : Nat) : Int))) (h13 : a.tmps[13]? = some (.int .i64 (o : Int))) (h14 : a.tmps[14]? = some (.int .i64 (arg : Int))) : decMid.wp Tryf.prog Q a w2 := by
  obtain ⟨f, hfr⟩ := dframe_litM a.tmps hsz h5 h6 h7 h9 h10 h11 h13 h14
  rw [dact_is hdf, hfr]
  exact db_brc hS hC hW hit hob harg hN ho3 f
set_option maxRecDepth 1000000 in
set_option maxHeartbeats 8000000 in
theorem db_clo {w0 w2 : World} {B r p d nc ub ob it o arg : Nat} {an tl : Bool} {R : Fin 6 → Rw} {ts : List Tk} {txt : List Int} {ps : List Bool} {op ct cl : List Nat} {Q : Exit → Act → World → Prop}
    (hS : DecS w0 w2 B r p d an tl nc R ts) (hC : Cont R txt ps op ct cl) (hW : DWf an nc ts txt ps op ct cl ub it) (hit : it < 4096) (hob : ob ≤ 2) (harg : arg ≤ 31)
    (hN : ∀ a' w', DFr r p d a' → DRel w0 B r p d an tl w' (it + 1) a' → Q .normal a' w') (ho3 : o = 4) (f : Nat → Value) :
    decMid.wp Tryf.prog Q { tmps := #[f 0, f 1, f 2, f 3, f 4, .pointer (some ⟨r, 0, none⟩), .pointer (some ⟨p, 0, none⟩), .pointer (some ⟨d, 0, none⟩), f 8, .int .i64 (ub : Int), .int .i64 (ob : Int), .int .i64 ((it + 1 : Nat) : Int), f 12, .int .i64 (o : Int), .int .i64 (arg : Int), f 15, f 16, f 17, f 18, f 19, f 20, f 21, f 22, f 23, f 24, f 25, f 26, f 27, f 28, f 29, f 30, f 31, f 32, f 33, f 34, f 35, f 36, f 37, f 38, f 39, f 40, f 41, f 42, f 43, f 44, f 45, f 46, f 47, f 48, f 49, f 50, f 51, f 52, f 53, f 54, f 55, f 56, f 57, f 58, f 59, f 60, f 61, f 62, f 63, f 64, f 65, f 66, f 67, f 68, f 69, f 70, f 71, f 72, f 73, f 74, f 75, f 76, f 77, f 78, f 79, f 80, f 81, f 82, f 83, f 84, f 85, f 86, f 87, f 88, f 89, f 90, f 91, f 92, f 93, f 94, f 95, f 96, f 97, f 98, f 99, f 100, f 101, f 102, f 103, f 104, f 105, f 106, f 107, f 108, f 109, f 110, f 111, f 112, f 113, f 114, f 115, f 116, f 117, f 118, f 119, f 120, f 121, f 122, f 123, f 124, f 125, f 126, f 127, f 128, f 129, f 130, f 131, f 132, f 133, f 134, f 135, f 136, f 137, f 138, f 139, f 140, f 141, f 142, f 143, f 144, f 145, f 146, f 147, f 148, f 149, f 150, f 151, f 152, f 153, f 154, f 155, f 156, f 157, f 158, f 159, f 160, f 161, f 162, f 163, f 164, f 165, f 166, f 167, f 168, f 169, f 170, f 171, f 172, f 173, f 174, f 175, f 176, f 177, f 178, f 179, f 180, f 181, f 182, f 183, f 184, f 185, f 186, f 187, f 188, f 189, f 190, f 191, f 192, f 193, f 194, f 195, f 196, f 197, f 198, f 199, f 200, f 201, f 202, f 203, f 204, f 205, f 206, f 207, f 208, f 209, f 210, f 211, f 212, f 213, f 214, f 215, f 216, f 217, f 218, f 219, f 220, f 221, f 222, f 223, f 224, f 225, f 226, f 227, f 228, f 229, f 230, f 231, f 232, f 233, f 234, f 235, f 236, f 237, f 238, f 239, f 240, f 241, f 242, f 243, f 244, f 245, f 246, f 247, f 248, f 249, f 250, f 251, f 252, f 253, f 254, f 255, f 256, f 257, f 258, f 259, f 260, f 261, f 262, f 263, f 264, f 265, f 266, f 267, f 268, f 269, f 270, f 271, f 272, f 273, f 274, f 275, f 276, f 277, f 278, f 279, f 280, f 281, f 282, f 283, f 284, f 285, f 286, f 287, f 288, f 289, f 290, f 291, f 292, f 293, f 294, f 295, f 296, f 297, f 298, f 299, f 300, f 301, f 302, f 303, f 304, f 305, f 306, f 307, f 308, f 309, f 310, f 311, f 312, f 313, f 314, f 315, f 316, f 317, f 318, f 319, f 320, f 321, f 322, f 323, f 324, f 325, f 326, f 327, f 328, f 329, f 330, f 331, f 332, f 333, f 334, f 335, f 336, f 337, f 338, f 339, f 340, f 341, f 342, f 343, f 344, f 345, f 346, f 347, f 348, f 349, f 350, f 351, f 352, f 353, f 354, f 355, f 356, f 357, f 358, f 359, f 360, f 361, f 362, f 363, f 364, f 365, f 366, f 367, f 368, f 369, f 370, f 371, f 372, f 373, f 374, f 375, f 376, f 377, f 378, f 379, f 380, f 381, f 382, f 383, f 384, f 385, f 386, f 387, f 388, f 389, f 390, f 391, f 392, f 393, f 394, f 395, f 396, f 397, f 398, f 399, f 400, f 401, f 402, f 403, f 404, f 405, f 406, f 407], defers := [] } w2 := by
  have hW3 := hW.nc12
  have hW4 := hW.op3
  have hW6 := hW.ctl
  have hW7 := hW.ub2
  have kd1 := blk_cell hS.dblk 1 _ rfl
  have kp4 := blk_cell hS.pblk 4 _ rfl
  rw [hC.on] at kd1
  have HKK := Lib.hid hN
  have HW := Lib.hid hW
  have H2 := Lib.hid hS
  have HC := Lib.hid hC
  clear hN hW hS hC
  conv => arg 2; whnf
  subst ho3
  rcases List.eq_nil_or_concat op with hop | ⟨op0, n, hop⟩
  · rw [hop] at kd1
    go_upto_if 111 with (fail)
    rename_i hK
    have HK := Lib.hid hK
    clear hK
    go_wp2_with fail
    refine HK.out _ _ ?_
    refine wp_same (c' := decTail) (by kernel_rfl) ?_
    refine sw_cls_at (o := 1) H2.out HC.out HW.out hit hob (fun a' w' h1 h2 => HKK.out a' w' h1 h2) (.slice none 0 0) (by omega) harg ?_ ?_ ?_ ?_ ?_ ?_ ?_ ?_ ?_ ?_ ?_
    all_goals first | rfl | exact dint_is (by omega)
  · rw [List.concat_eq_append] at hop
    rcases List.eq_nil_or_concat ct with hct | ⟨ct0, c, hct⟩
    · rw [hct, hop] at hW6; simp at hW6
    · rw [List.concat_eq_append] at hct
      obtain ⟨m, hm⟩ : ∃ m, op.length = m := ⟨_, rfl⟩
      have hm0 : m ≠ 0 := by rw [← hm, hop]; simp
      rw [hm] at kd1
      have tm : ((m : Int) == 0) = false := by rw [beq_eq_false_iff_ne]; omega
      have HOP := Lib.hid hop
      have HCT := Lib.hid hct
      clear hop hct hm
      go_upto_if 111 with (fail)
      rename_i hK
      have HK := Lib.hid hK
      clear hK
      go_wp2_with fail
      refine HK.out _ _ ?_
      refine wp_same (c' := decTail) (by kernel_rfl) ?_
      refine sw_clo_at (arg := arg) H2.out HC.out HW.out hit hob (fun a' w' h1 h2 => HKK.out a' w' h1 h2) (.slice none 0 0) HOP.out HCT.out ?_ ?_ ?_ ?_ ?_ ?_ ?_ ?_ ?_ ?_ ?_
      all_goals first | rfl | exact dint_is (by omega)
theorem db_clo_at {w0 w2 : World} {B r p d nc ub ob it o arg : Nat} {an tl : Bool} {R : Fin 6 → Rw} {ts : List Tk} {txt : List Int} {ps : List Bool} {op ct cl : List Nat} {Q : Exit → Act → World → Prop}
    (hS : DecS w0 w2 B r p d an tl nc R ts) (hC : Cont R txt ps op ct cl) (hW : DWf an nc ts txt ps op ct cl ub it) (hit : it < 4096) (hob : ob ≤ 2) (harg : arg ≤ 31)
    (hN : ∀ a' w', DFr r p d a' → DRel w0 B r p d an tl w' (it + 1) a' → Q .normal a' w') (ho3 : o = 4) {a : Act} (hdf : a.defers = []) (hsz : a.tmps.size = 408) (h5 : a.tmps[5]? = some (.pointer (some ⟨r, 0, none⟩))) (h6 : a.tmps[6]? = some (.pointer (some ⟨p, 0, none⟩))) (h7 : a.tmps[7]? = some (.pointer (some ⟨d, 0, none⟩))) (h9 : a.tmps[9]? = some (.int .i64 (ub : Int))) (h10 : a.tmps[10]? = some (.int .i64 (ob : Int))) (h11 : a.tmps[11]? = some (.int .i64 ((it + 1 : Nat) : Int))) (h13 : a.tmps[13]? = some (.int .i64 (o : Int))) (h14 : a.tmps[14]? = some (.int .i64 (arg : Int))) : decMid.wp Tryf.prog Q a w2 := by
  obtain ⟨f, hfr⟩ := dframe_litM a.tmps hsz h5 h6 h7 h9 h10 h11 h13 h14
  rw [dact_is hdf, hfr]
  exact db_clo hS hC hW hit hob harg hN ho3 f
set_option maxRecDepth 1000000 in
set_option maxHeartbeats 8000000 in
theorem db_ref {w0 w2 : World} {B r p d nc ub ob it o arg : Nat} {an tl : Bool} {R : Fin 6 → Rw} {ts : List Tk} {txt : List Int} {ps : List Bool} {op ct cl : List Nat} {Q : Exit → Act → World → Prop}
    (hS : DecS w0 w2 B r p d an tl nc R ts) (hC : Cont R txt ps op ct cl) (hW : DWf an nc ts txt ps op ct cl ub it) (hit : it < 4096) (hob : ob ≤ 2) (harg : arg ≤ 31)
    (hN : ∀ a' w', DFr r p d a' → DRel w0 B r p d an tl w' (it + 1) a' → Q .normal a' w') (ho3 : o = 6) (f : Nat → Value) :
    decMid.wp Tryf.prog Q { tmps := #[f 0, f 1, f 2, f 3, f 4, .pointer (some ⟨r, 0, none⟩), .pointer (some ⟨p, 0, none⟩), .pointer (some ⟨d, 0, none⟩), f 8, .int .i64 (ub : Int), .int .i64 (ob : Int), .int .i64 ((it + 1 : Nat) : Int), f 12, .int .i64 (o : Int), .int .i64 (arg : Int), f 15, f 16, f 17, f 18, f 19, f 20, f 21, f 22, f 23, f 24, f 25, f 26, f 27, f 28, f 29, f 30, f 31, f 32, f 33, f 34, f 35, f 36, f 37, f 38, f 39, f 40, f 41, f 42, f 43, f 44, f 45, f 46, f 47, f 48, f 49, f 50, f 51, f 52, f 53, f 54, f 55, f 56, f 57, f 58, f 59, f 60, f 61, f 62, f 63, f 64, f 65, f 66, f 67, f 68, f 69, f 70, f 71, f 72, f 73, f 74, f 75, f 76, f 77, f 78, f 79, f 80, f 81, f 82, f 83, f 84, f 85, f 86, f 87, f 88, f 89, f 90, f 91, f 92, f 93, f 94, f 95, f 96, f 97, f 98, f 99, f 100, f 101, f 102, f 103, f 104, f 105, f 106, f 107, f 108, f 109, f 110, f 111, f 112, f 113, f 114, f 115, f 116, f 117, f 118, f 119, f 120, f 121, f 122, f 123, f 124, f 125, f 126, f 127, f 128, f 129, f 130, f 131, f 132, f 133, f 134, f 135, f 136, f 137, f 138, f 139, f 140, f 141, f 142, f 143, f 144, f 145, f 146, f 147, f 148, f 149, f 150, f 151, f 152, f 153, f 154, f 155, f 156, f 157, f 158, f 159, f 160, f 161, f 162, f 163, f 164, f 165, f 166, f 167, f 168, f 169, f 170, f 171, f 172, f 173, f 174, f 175, f 176, f 177, f 178, f 179, f 180, f 181, f 182, f 183, f 184, f 185, f 186, f 187, f 188, f 189, f 190, f 191, f 192, f 193, f 194, f 195, f 196, f 197, f 198, f 199, f 200, f 201, f 202, f 203, f 204, f 205, f 206, f 207, f 208, f 209, f 210, f 211, f 212, f 213, f 214, f 215, f 216, f 217, f 218, f 219, f 220, f 221, f 222, f 223, f 224, f 225, f 226, f 227, f 228, f 229, f 230, f 231, f 232, f 233, f 234, f 235, f 236, f 237, f 238, f 239, f 240, f 241, f 242, f 243, f 244, f 245, f 246, f 247, f 248, f 249, f 250, f 251, f 252, f 253, f 254, f 255, f 256, f 257, f 258, f 259, f 260, f 261, f 262, f 263, f 264, f 265, f 266, f 267, f 268, f 269, f 270, f 271, f 272, f 273, f 274, f 275, f 276, f 277, f 278, f 279, f 280, f 281, f 282, f 283, f 284, f 285, f 286, f 287, f 288, f 289, f 290, f 291, f 292, f 293, f 294, f 295, f 296, f 297, f 298, f 299, f 300, f 301, f 302, f 303, f 304, f 305, f 306, f 307, f 308, f 309, f 310, f 311, f 312, f 313, f 314, f 315, f 316, f 317, f 318, f 319, f 320, f 321, f 322, f 323, f 324, f 325, f 326, f 327, f 328, f 329, f 330, f 331, f 332, f 333, f 334, f 335, f 336, f 337, f 338, f 339, f 340, f 341, f 342, f 343, f 344, f 345, f 346, f 347, f 348, f 349, f 350, f 351, f 352, f 353, f 354, f 355, f 356, f 357, f 358, f 359, f 360, f 361, f 362, f 363, f 364, f 365, f 366, f 367, f 368, f 369, f 370, f 371, f 372, f 373, f 374, f 375, f 376, f 377, f 378, f 379, f 380, f 381, f 382, f 383, f 384, f 385, f 386, f 387, f 388, f 389, f 390, f 391, f 392, f 393, f 394, f 395, f 396, f 397, f 398, f 399, f 400, f 401, f 402, f 403, f 404, f 405, f 406, f 407], defers := [] } w2 := by
  have hW3 := hW.nc12
  have hW4 := hW.op3
  have hW6 := hW.ctl
  have hW7 := hW.ub2
  have kd1 := blk_cell hS.dblk 1 _ rfl
  have kp4 := blk_cell hS.pblk 4 _ rfl
  rw [hC.on] at kd1
  have HKK := Lib.hid hN
  have HW := Lib.hid hW
  have H2 := Lib.hid hS
  have HC := Lib.hid hC
  clear hN hW hS hC
  conv => arg 2; whnf
  subst ho3
  obtain ⟨ii, hii, hi0, hi1, hi2⟩ := info_parts int_info
  have kd3 := blk_cell H2.out.dblk 3 _ rfl
  rw [HC.out.ln] at kd3
  have hcl := HW.out.cll
  have hcl2 : cl.length ≤ 12 := by omega
  have h5 := H2.out.own5
  rw [HC.out.ln, HC.out.lx] at h5
  obtain ⟨ao5, hao5⟩ : ∃ x, (R 5).ao = x := ⟨_, rfl⟩
  rw [hao5] at kd3 h5
  have H5 := Lib.hid h5
  clear h5 hcl hao5
  go_upto_if 111 with (fail)
  rename_i hK
  have HK := Lib.hid hK
  clear hK
  go_wp2_with fail
  go_loopg [15, 117] (cl.length - 0) (fun k v15 v117 wq => ∃ (i : Nat) (ca : Option Addr) (cc : Nat) (ns : List Nat) (m : Nat), k = cl.length - i ∧ v117 = .int .i64 (i : Int) ∧ i ≤ cl.length ∧ v15 = .slice ca m cc ∧ Hid (ns.length = m) ∧ m ≤ i ∧ Hid (Below w2.heap.size w2 wq) ∧ Hid (wq.ownsRow w2.heap.size 3 1 (.slice ca m cc) m (ints ns)) ∧ Hid (∀ x, x ∈ ns → x ∈ cl ∧ x ≤ 9 ∧ 1 ≤ x))
  case atStart => exact ⟨0, none, 0, [], 0, rfl, rfl, by omega, rfl, Lib.hid rfl, by omega, Lib.hid (Below.refl _ _), Lib.hid ⟨rfl, .inl ⟨rfl, rfl⟩⟩, Lib.hid (fun x hx => by cases hx)⟩
  case round =>
    obtain ⟨i, ca, cc, ns, m, rfl, rfl, hic, rfl, HNS, hmi, HBQ, HOQ, HALL⟩ := hrel
    by_cases hlt : i < cl.length
    · obtain ⟨x, hx⟩ : ∃ x, cl[i]? = some x := ⟨cl[i], List.getElem?_eq_getElem hlt⟩
      have hxm : x ∈ cl := List.mem_of_getElem? hx
      have hx1 := (HW.out.clo x hxm).2
      obtain ⟨g5, rfl⟩ := row_some H5.out (by omega)
      have kx : wr.cell? ⟨g5, i, none⟩ = some (.int .i64 (x : Int)) := by
        have h5 := H5.out
        have h6 : w2.cell? ⟨g5, i, none⟩ = some (.int .i64 (x : Int)) := by
          refine (h5.cellAt i (by omega)).trans ?_
          rw [ints_get, hx]; rfl
        exact (HBQ.out.cell (lt_of_cell h6)).trans h6
      have HXM := Lib.hid hxm
      have hii1 : (i : Int) < (cl.length : Int) := by omega
      have tli : decide ((i : Int) < (cl.length : Int)) = true := decide_eq_true hii1
      clear hx hxm
      by_cases h9 : x ≤ 9
      · have t9 : decide ((x : Int) ≤ 9) = true := decide_eq_true (by omega)
        have t9n : decide (x ≤ 9) = true := decide_eq_true h9
        have hbs := HBQ.out.size
        go_wp2_with (at_builtin; go_loud (refine wpList_push _ rfl (.tmp 123) (.tmp 125) 37 rfl w2.heap.size 3 ii (.int .i64 0) 1 8 Tryf.underlying37 hii hi0 hi1 hi2 rfl (by decide) _ _ _ _ rfl (HOQ.out.alloc _) ⟨wr.heap.size, 0, none⟩ 1 1 [.int .i64 (x : Int)] rfl rfl (news_any (by simp)) (by simp [Value.oneCell']) (by decide) (by unfold maxLen; omega) (by omega) (by simp; omega) ?_; intro g1 c1 w8 hown hgrow hwhere; have HO := Lib.hid hown; have HGw := Lib.hid hgrow; clear hown hgrow hwhere))
        have HB8 := Lib.hid (below_grown (HBQ.out.alloc HBQ.out.size (.cells #[.int .i64 (x : Int)] 3)) (Nat.le_refl _) HGw.out (fun g e => (owns_lt HOQ.out g e).1))
        have HO8 : Hid (w8.ownsRow w2.heap.size 3 1 (.slice (some ⟨g1, 0, none⟩) (m + 1) c1) (m + 1) (ints (ns ++ [x]))) := Lib.hid (by rw [ints_app]; exact HO.out)
        go_roundg (cl.length - (i + 1))
        case measure => omega
        case rel => exact ⟨i + 1, _, _, ns ++ [x], m + 1, rfl, rfl, by omega, rfl, Lib.hid (by rw [List.length_append, HNS.out]; rfl), by omega, HB8, HO8, Lib.hid (fun y hy => by
          simp only [List.mem_append, List.mem_singleton] at hy
          rcases hy with hy | rfl
          · exact HALL.out y hy
          · exact ⟨HXM.out, h9, hx1⟩)⟩
      · have t9 : decide ((x : Int) ≤ 9) = false := decide_eq_false (by omega)
        have t9n : decide (x ≤ 9) = false := decide_eq_false h9
        go_wp2_with fail
        go_roundg (cl.length - (i + 1))
        case measure => omega
        case rel => exact ⟨i + 1, _, _, ns, m, rfl, rfl, by omega, rfl, HNS, by omega, HBQ, HOQ, HALL⟩
    · obtain rfl : i = cl.length := by omega
      have H3 := Lib.hid (H2.out.below HBQ.out)
      by_cases hm0 : m = 0
      · have tm : ((m : Int) == 0) = true := by rw [beq_iff_eq]; omega
        subst hm0
        go_wp2_with fail
        refine HK.out _ _ ?_
        refine wp_same (c' := decTail) (by kernel_rfl) ?_
        refine sw_cls_at (o := 0) H3.out HC.out HW.out hit hob (fun a' w' h1 h2 => HKK.out a' w' h1 h2) (.slice ca 0 cc) (by omega) harg ?_ ?_ ?_ ?_ ?_ ?_ ?_ ?_ ?_ ?_ ?_
        all_goals first | rfl | exact dint_is (by omega)
      · obtain ⟨gc, rfl⟩ := row_some HOQ.out (by omega)
        have tm : ((m : Int) == 0) = false := by rw [beq_eq_false_iff_ne]; omega
        have hgc : blkOf (R 4).ao ≠ some gc := fun e => by
          have h1 := (owns_lt H2.out.own4 gc e).2
          have h2 := (owns_lt HOQ.out gc rfl).1
          omega
        have HCD : Hid (∀ j, j < m → ∃ n : Nat, wr.cell? ⟨gc, j, none⟩ = some (.int .i64 (n : Int)) ∧ n ∈ cl ∧ n ≤ 9 ∧ 1 ≤ n) := Lib.hid (fun j hj => by
          have hjl : j < ns.length := by rw [HNS.out]; exact hj
          refine ⟨ns[j], (HOQ.out.cellAt j (by omega)).trans ?_, HALL.out _ (List.getElem_mem hjl)⟩
          rw [ints_get, List.getElem?_eq_getElem hjl]; rfl)
        have HGC := Lib.hid hgc
        clear hgc
        go_wp2_with fail
        refine HK.out _ _ ?_
        refine wp_same (c' := decTail) (by kernel_rfl) ?_
        refine sw_ref_at (capc := cc) H3.out HC.out HW.out hit hob (fun a' w' h1 h2 => HKK.out a' w' h1 h2) harg (by omega) (by omega) HGC.out HCD.out ?_ ?_ ?_ ?_ ?_ ?_ ?_ ?_ ?_ ?_ ?_
        all_goals first | rfl | exact dint_is (by omega)
theorem db_ref_at {w0 w2 : World} {B r p d nc ub ob it o arg : Nat} {an tl : Bool} {R : Fin 6 → Rw} {ts : List Tk} {txt : List Int} {ps : List Bool} {op ct cl : List Nat} {Q : Exit → Act → World → Prop}
    (hS : DecS w0 w2 B r p d an tl nc R ts) (hC : Cont R txt ps op ct cl) (hW : DWf an nc ts txt ps op ct cl ub it) (hit : it < 4096) (hob : ob ≤ 2) (harg : arg ≤ 31)
    (hN : ∀ a' w', DFr r p d a' → DRel w0 B r p d an tl w' (it + 1) a' → Q .normal a' w') (ho3 : o = 6) {a : Act} (hdf : a.defers = []) (hsz : a.tmps.size = 408) (h5 : a.tmps[5]? = some (.pointer (some ⟨r, 0, none⟩))) (h6 : a.tmps[6]? = some (.pointer (some ⟨p, 0, none⟩))) (h7 : a.tmps[7]? = some (.pointer (some ⟨d, 0, none⟩))) (h9 : a.tmps[9]? = some (.int .i64 (ub : Int))) (h10 : a.tmps[10]? = some (.int .i64 (ob : Int))) (h11 : a.tmps[11]? = some (.int .i64 ((it + 1 : Nat) : Int))) (h13 : a.tmps[13]? = some (.int .i64 (o : Int))) (h14 : a.tmps[14]? = some (.int .i64 (arg : Int))) : decMid.wp Tryf.prog Q a w2 := by
  obtain ⟨f, hfr⟩ := dframe_litM a.tmps hsz h5 h6 h7 h9 h10 h11 h13 h14
  rw [dact_is hdf, hfr]
  exact db_ref hS hC hW hit hob harg hN ho3 f


def DQ (w0 : World) (B r p d : Nat) (an tl : Bool) : Exit → Act → World → Prop
  | .exit id, a, w' => id = 0 ∧ DFr r p d a ∧ ∃ it, DRel w0 B r p d an tl w' it a
  | _, _, _ => False
set_option maxRecDepth 1000000 in
set_option maxHeartbeats 8000000 in
theorem dec_head {w0 wr : World} {B r p d nc ub ob it : Nat} {an tl : Bool} {R : Fin 6 → Rw} {ts : List Tk} {txt : List Int} {ps : List Bool} {op ct cl : List Nat} {K : Act → World → Prop}
    (hS : DecS w0 wr B r p d an tl nc R ts) (hC : Cont R txt ps op ct cl) (hW : DWf an nc ts txt ps op ct cl ub it) (hob : ob ≤ 2) (hit4 : it ≤ 4096)
    (hK : ∀ a' w', it < 4096 → DFr r p d a' → DRel w0 B r p d an tl w' (it + 1) a' → K a' w') (f : Nat → Value) :
    decBody.wp Tryf.prog (Exit.then K (DQ w0 B r p d an tl)) { tmps := #[f 0, f 1, f 2, f 3, f 4, .pointer (some ⟨r, 0, none⟩), .pointer (some ⟨p, 0, none⟩), .pointer (some ⟨d, 0, none⟩), f 8, .int .i64 (ub : Int), .int .i64 (ob : Int), .int .i64 (it : Int), f 12, f 13, f 14, f 15, f 16, f 17, f 18, f 19, f 20, f 21, f 22, f 23, f 24, f 25, f 26, f 27, f 28, f 29, f 30, f 31, f 32, f 33, f 34, f 35, f 36, f 37, f 38, f 39, f 40, f 41, f 42, f 43, f 44, f 45, f 46, f 47, f 48, f 49, f 50, f 51, f 52, f 53, f 54, f 55, f 56, f 57, f 58, f 59, f 60, f 61, f 62, f 63, f 64, f 65, f 66, f 67, f 68, f 69, f 70, f 71, f 72, f 73, f 74, f 75, f 76, f 77, f 78, f 79, f 80, f 81, f 82, f 83, f 84, f 85, f 86, f 87, f 88, f 89, f 90, f 91, f 92, f 93, f 94, f 95, f 96, f 97, f 98, f 99, f 100, f 101, f 102, f 103, f 104, f 105, f 106, f 107, f 108, f 109, f 110, f 111, f 112, f 113, f 114, f 115, f 116, f 117, f 118, f 119, f 120, f 121, f 122, f 123, f 124, f 125, f 126, f 127, f 128, f 129, f 130, f 131, f 132, f 133, f 134, f 135, f 136, f 137, f 138, f 139, f 140, f 141, f 142, f 143, f 144, f 145, f 146, f 147, f 148, f 149, f 150, f 151, f 152, f 153, f 154, f 155, f 156, f 157, f 158, f 159, f 160, f 161, f 162, f 163, f 164, f 165, f 166, f 167, f 168, f 169, f 170, f 171, f 172, f 173, f 174, f 175, f 176, f 177, f 178, f 179, f 180, f 181, f 182, f 183, f 184, f 185, f 186, f 187, f 188, f 189, f 190, f 191, f 192, f 193, f 194, f 195, f 196, f 197, f 198, f 199, f 200, f 201, f 202, f 203, f 204, f 205, f 206, f 207, f 208, f 209, f 210, f 211, f 212, f 213, f 214, f 215, f 216, f 217, f 218, f 219, f 220, f 221, f 222, f 223, f 224, f 225, f 226, f 227, f 228, f 229, f 230, f 231, f 232, f 233, f 234, f 235, f 236, f 237, f 238, f 239, f 240, f 241, f 242, f 243, f 244, f 245, f 246, f 247, f 248, f 249, f 250, f 251, f 252, f 253, f 254, f 255, f 256, f 257, f 258, f 259, f 260, f 261, f 262, f 263, f 264, f 265, f 266, f 267, f 268, f 269, f 270, f 271, f 272, f 273, f 274, f 275, f 276, f 277, f 278, f 279, f 280, f 281, f 282, f 283, f 284, f 285, f 286, f 287, f 288, f 289, f 290, f 291, f 292, f 293, f 294, f 295, f 296, f 297, f 298, f 299, f 300, f 301, f 302, f 303, f 304, f 305, f 306, f 307, f 308, f 309, f 310, f 311, f 312, f 313, f 314, f 315, f 316, f 317, f 318, f 319, f 320, f 321, f 322, f 323, f 324, f 325, f 326, f 327, f 328, f 329, f 330, f 331, f 332, f 333, f 334, f 335, f 336, f 337, f 338, f 339, f 340, f 341, f 342, f 343, f 344, f 345, f 346, f 347, f 348, f 349, f 350, f 351, f 352, f 353, f 354, f 355, f 356, f 357, f 358, f 359, f 360, f 361, f 362, f 363, f 364, f 365, f 366, f 367, f 368, f 369, f 370, f 371, f 372, f 373, f 374, f 375, f 376, f 377, f 378, f 379, f 380, f 381, f 382, f 383, f 384, f 385, f 386, f 387, f 388, f 389, f 390, f 391, f 392, f 393, f 394, f 395, f 396, f 397, f 398, f 399, f 400, f 401, f 402, f 403, f 404, f 405, f 406, f 407], defers := [] } wr := by
  have HKK := Lib.hid hK
  have HW := Lib.hid hW
  have H := Lib.hid hS
  have HC := Lib.hid hC
  clear hK hW hS hC
  conv => arg 2; whnf
  by_cases hit : it < 4096
  · have tit : decide ((it : Int) < 4096) = true := decide_eq_true (by omega)
    have titn : decide (it < 4096) = true := decide_eq_true hit
    go_upto_region 13 with (go_at_call 12; refine (more_any H.out.rd).mono ?_; rintro e w1 ⟨bb, q, rfl, hw1⟩)
    rotate_left
    · exact ⟨rfl, ⟨rfl, rfl, rfl, rfl, rfl⟩, it, drel_mk rfl rfl rfl (H.out.drewN q) HC.out HW.out (by omega) hob⟩
    have H1 := Lib.hid (H.out.drewN q)
    generalize wr.drewN q = w1 at *
    clear H tit titn
    go_upto_region 14 with (go_at_call 11; refine (next_rd H1.out.rd).mono ?_; rintro e w2 ⟨v, hv, rfl, hrd, hg⟩)
    have H2 := Lib.hid (H1.out.call hg hrd)
    clear hg hrd H1
    obtain ⟨o, ho⟩ : ∃ o, v % 8 = o := ⟨_, rfl⟩
    obtain ⟨arg, hag⟩ : ∃ arg, v / 8 = arg := ⟨_, rfl⟩
    have htm : Int.tmod (v : Int) 8 = (o : Int) := by rw [Int.tmod_eq_emod_of_nonneg (by omega), ← ho]; rfl
    have htm2 : (v : Int) % 8 = (o : Int) := by omega
    have htd : Int.tdiv (v : Int) 8 = (arg : Int) := by rw [Int.tdiv_eq_ediv_of_nonneg (by omega), ← hag]; rfl
    have htd2 : (v : Int) / 8 = (arg : Int) := by omega
    have harg : arg ≤ 31 := by omega
    have ho8 : (o = 0 ∨ o = 1 ∨ o = 2) ∨ o = 3 ∨ o = 4 ∨ o = 5 ∨ o = 6 ∨ o = 7 := by omega
    have HO8 := Lib.hid ho8
    clear ho hag ho8
    go_upto_region 16 with (fail)
    rename_i hK2
    have HK := Lib.hid hK2
    clear hK2
    go_wp2_with fail
    refine HK.out _ _ ?_
    refine wp_same (c' := decMid) (by kernel_rfl) ?_
    rcases HO8.out with h | h | h | h | h | h
    · refine db_cls0_at H2.out HC.out HW.out hit hob harg (fun a' w' h1 h2 => HKK.out a' w' hit h1 h2) h ?_ ?_ ?_ ?_ ?_ ?_ ?_ ?_ ?_ ?_
      all_goals first | rfl | exact dint_is (by omega)
    · refine db_opn_at H2.out HC.out HW.out hit hob harg (fun a' w' h1 h2 => HKK.out a' w' hit h1 h2) h ?_ ?_ ?_ ?_ ?_ ?_ ?_ ?_ ?_ ?_
      all_goals first | rfl | exact dint_is (by omega)
    · refine db_clo_at H2.out HC.out HW.out hit hob harg (fun a' w' h1 h2 => HKK.out a' w' hit h1 h2) h ?_ ?_ ?_ ?_ ?_ ?_ ?_ ?_ ?_ ?_
      all_goals first | rfl | exact dint_is (by omega)
    · refine db_pos_at H2.out HC.out HW.out hit hob harg (fun a' w' h1 h2 => HKK.out a' w' hit h1 h2) h ?_ ?_ ?_ ?_ ?_ ?_ ?_ ?_ ?_ ?_
      all_goals first | rfl | exact dint_is (by omega)
    · refine db_ref_at H2.out HC.out HW.out hit hob harg (fun a' w' h1 h2 => HKK.out a' w' hit h1 h2) h ?_ ?_ ?_ ?_ ?_ ?_ ?_ ?_ ?_ ?_
      all_goals first | rfl | exact dint_is (by omega)
    · refine db_brc_at H2.out HC.out HW.out hit hob harg (fun a' w' h1 h2 => HKK.out a' w' hit h1 h2) h ?_ ?_ ?_ ?_ ?_ ?_ ?_ ?_ ?_ ?_
      all_goals first | rfl | exact dint_is (by omega)
  · have tit : decide ((it : Int) < 4096) = false := decide_eq_false (by omega)
    have titn : decide (it < 4096) = false := decide_eq_false hit
    go_wp2_with (go_at_call 12; refine (more_any H.out.rd).mono ?_; rintro e w1 ⟨bb, q, rfl, hw1⟩)
    all_goals exact ⟨rfl, ⟨rfl, rfl, rfl, rfl, rfl⟩, it, drel_mk rfl rfl rfl (H.out.drewN q) HC.out HW.out (by omega) hob⟩
theorem dec_round {w0 wr : World} {B r p d it : Nat} {an tl : Bool} {K : Act → World → Prop} {a : Act} (hf : DFr r p d a) (hrel : DRel w0 B r p d an tl wr it a)
    (hK : ∀ a' w', it < 4096 → DFr r p d a' → DRel w0 B r p d an tl w' (it + 1) a' → K a' w') : decBody.wp Tryf.prog (Exit.then K (DQ w0 B r p d an tl)) a wr := by
  obtain ⟨nc, R, ts, txt, ps, op, ct, cl, ub, ob, h9, h10, h11, hS, hC, hW, hi, ho⟩ := hrel
  obtain ⟨f, hfr⟩ := dframe_lit a.tmps hf.sz hf.s5 hf.s6 hf.s7 h9 h10 h11
  rw [dact_is hf.df, hfr]
  exact dec_head hS hC hW ho hi hK f
theorem dec_loop {w0 wr : World} {B r p d it : Nat} {an tl : Bool} {a : Act} (hf : DFr r p d a) (hrel : DRel w0 B r p d an tl wr it a) :
    (Code.loop decBody).wp Tryf.prog (DQ w0 B r p d an tl) a wr := by
  refine wp_loop_ghost (fun n a' w' => ∃ it', n = 4096 - it' ∧ DFr r p d a' ∧ DRel w0 B r p d an tl w' it' a') (4096 - it) ⟨it, rfl, hf, hrel⟩ ?_
  rintro n a' w' ⟨it', rfl, hf', hrel'⟩
  refine dec_round hf' hrel' ?_
  intro a2 w2 hlt hf2 hrel2
  exact ⟨_, by omega, it' + 1, rfl, hf2, hrel2⟩

end Go.Proofs.YtcfhhcjcnafcjaaFmt
