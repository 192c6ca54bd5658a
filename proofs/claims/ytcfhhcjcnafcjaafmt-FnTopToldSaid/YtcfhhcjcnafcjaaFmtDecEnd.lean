/-
  The decoder's loops and its contract. Conditions as each statement says.
-/
import Derived.Test.YtcfhhcjcnafcjaaFmtDecSwOpn
import Derived.Test.YtcfhhcjcnafcjaaFmtDecSwPos
import Derived.Test.YtcfhhcjcnafcjaaFmtSwSmall
import Derived.Test.YtcfhhcjcnafcjaaFmtSwCls
import Derived.Deep.LoopGhost
namespace Go.Proofs.YtcfhhcjcnafcjaaFmt
open Go.RowKit
set_option linter.unusedVariables false
set_option linter.unusedSimpArgs false


def startsAt (n : Nat) : Code → Bool
  | .region k _ _ => k == n
  | .seq a _ => startsAt n a
  | _ => false
/-- The rest of a code from the statement on that begins with the region n. -/
def tailGrp (n : Nat) : Code → Option Code
  | .seq a b => if startsAt n a then some (.seq a b) else match tailGrp n a with
    | some c => some c
    | none => tailGrp n b
  | .block _ c => tailGrp n c
  | .scope c => tailGrp n c
  | .loop c => tailGrp n c
  | .cond _ a b => match tailGrp n a with
    | some c => some c
    | none => tailGrp n b
  | _ => none
noncomputable def decMid : Code := (tailGrp 17 decBody).getD .skip
set_option maxRecDepth 1000000 in
theorem dframe_litM (xs : Array Value) (h : xs.size = 408) {v5 v6 v7 v9 v10 v11 v13 v14 : Value} (h5 : xs[5]? = some v5) (h6 : xs[6]? = some v6) (h7 : xs[7]? = some v7) (h9 : xs[9]? = some v9) (h10 : xs[10]? = some v10) (h11 : xs[11]? = some v11) (h13 : xs[13]? = some v13) (h14 : xs[14]? = some v14) : ∃ f : Nat → Value, xs = #[f 0, f 1, f 2, f 3, f 4, v5, v6, v7, f 8, v9, v10, v11, f 12, v13, v14, f 15, f 16, f 17, f 18, f 19, f 20, f 21, f 22, f 23, f 24, f 25, f 26, f 27, f 28, f 29, f 30, f 31, f 32, f 33, f 34, f 35, f 36, f 37, f 38, f 39, f 40, f 41, f 42, f 43, f 44, f 45, f 46, f 47, f 48, f 49, f 50, f 51, f 52, f 53, f 54, f 55, f 56, f 57, f 58, f 59, f 60, f 61, f 62, f 63, f 64, f 65, f 66, f 67, f 68, f 69, f 70, f 71, f 72, f 73, f 74, f 75, f 76, f 77, f 78, f 79, f 80, f 81, f 82, f 83, f 84, f 85, f 86, f 87, f 88, f 89, f 90, f 91, f 92, f 93, f 94, f 95, f 96, f 97, f 98, f 99, f 100, f 101, f 102, f 103, f 104, f 105, f 106, f 107, f 108, f 109, f 110, f 111, f 112, f 113, f 114, f 115, f 116, f 117, f 118, f 119, f 120, f 121, f 122, f 123, f 124, f 125, f 126, f 127, f 128, f 129, f 130, f 131, f 132, f 133, f 134, f 135, f 136, f 137, f 138, f 139, f 140, f 141, f 142, f 143, f 144, f 145, f 146, f 147, f 148, f 149, f 150, f 151, f 152, f 153, f 154, f 155, f 156, f 157, f 158, f 159, f 160, f 161, f 162, f 163, f 164, f 165, f 166, f 167, f 168, f 169, f 170, f 171, f 172, f 173, f 174, f 175, f 176, f 177, f 178, f 179, f 180, f 181, f 182, f 183, f 184, f 185, f 186, f 187, f 188, f 189, f 190, f 191, f 192, f 193, f 194, f 195, f 196, f 197, f 198, f 199, f 200, f 201, f 202, f 203, f 204, f 205, f 206, f 207, f 208, f 209, f 210, f 211, f 212, f 213, f 214, f 215, f 216, f 217, f 218, f 219, f 220, f 221, f 222, f 223, f 224, f 225, f 226, f 227, f 228, f 229, f 230, f 231, f 232, f 233, f 234, f 235, f 236, f 237, f 238, f 239, f 240, f 241, f 242, f 243, f 244, f 245, f 246, f 247, f 248, f 249, f 250, f 251, f 252, f 253, f 254, f 255, f 256, f 257, f 258, f 259, f 260, f 261, f 262, f 263, f 264, f 265, f 266, f 267, f 268, f 269, f 270, f 271, f 272, f 273, f 274, f 275, f 276, f 277, f 278, f 279, f 280, f 281, f 282, f 283, f 284, f 285, f 286, f 287, f 288, f 289, f 290, f 291, f 292, f 293, f 294, f 295, f 296, f 297, f 298, f 299, f 300, f 301, f 302, f 303, f 304, f 305, f 306, f 307, f 308, f 309, f 310, f 311, f 312, f 313, f 314, f 315, f 316, f 317, f 318, f 319, f 320, f 321, f 322, f 323, f 324, f 325, f 326, f 327, f 328, f 329, f 330, f 331, f 332, f 333, f 334, f 335, f 336, f 337, f 338, f 339, f 340, f 341, f 342, f 343, f 344, f 345, f 346, f 347, f 348, f 349, f 350, f 351, f 352, f 353, f 354, f 355, f 356, f 357, f 358, f 359, f 360, f 361, f 362, f 363, f 364, f 365, f 366, f 367, f 368, f 369, f 370, f 371, f 372, f 373, f 374, f 375, f 376, f 377, f 378, f 379, f 380, f 381, f 382, f 383, f 384, f 385, f 386, f 387, f 388, f 389, f 390, f 391, f 392, f 393, f 394, f 395, f 396, f 397, f 398, f 399, f 400, f 401, f 402, f 403, f 404, f 405, f 406, f 407] := by
  have hf : ∀ k, k < 408 → xs[k]? = some (xs.getD k .nilIface) := fun k hk => by
    rw [Array.getD_eq_getD_getElem?, Array.getElem?_eq_getElem (by omega)]; rfl
  refine ⟨fun k => xs.getD k .nilIface, ?_⟩
  have e := (darr_range xs 408 h _ hf).trans (dlit_range _)
  have e5 : xs.getD 5 .nilIface = v5 := by rw [Array.getD_eq_getD_getElem?, h5]; rfl
  have e6 : xs.getD 6 .nilIface = v6 := by rw [Array.getD_eq_getD_getElem?, h6]; rfl
  have e7 : xs.getD 7 .nilIface = v7 := by rw [Array.getD_eq_getD_getElem?, h7]; rfl
  have e9 : xs.getD 9 .nilIface = v9 := by rw [Array.getD_eq_getD_getElem?, h9]; rfl
  have e10 : xs.getD 10 .nilIface = v10 := by rw [Array.getD_eq_getD_getElem?, h10]; rfl
  have e11 : xs.getD 11 .nilIface = v11 := by rw [Array.getD_eq_getD_getElem?, h11]; rfl
  have e13 : xs.getD 13 .nilIface = v13 := by rw [Array.getD_eq_getD_getElem?, h13]; rfl
  have e14 : xs.getD 14 .nilIface = v14 := by rw [Array.getD_eq_getD_getElem?, h14]; rfl
  subst e5 e6 e7 e9 e10 e11 e13 e14
  exact e
set_option maxRecDepth 1000000 in
set_option maxHeartbeats 8000000 in
theorem db_cls0 {w0 w2 : World} {B r p d nc ub ob it o arg : Nat} {an tl : Bool} {R : Fin 6 → Rw} {ts : List Tk} {txt : List Int} {ps : List Bool} {op ct cl : List Nat} {Q : Exit → Act → World → Prop}
    (hS : DecS w0 w2 B r p d an tl nc R ts) (hC : Cont R txt ps op ct cl) (hW : DWf an nc ts txt ps op ct cl ub it) (hit : it < 4096) (hob : ob ≤ 2) (harg : arg ≤ 31)
    (hN : ∀ a' w', DFr r p d a' → DRel w0 B r p d an tl w' (it + 1) a' → Q .normal a' w') (ho3 : o = 0 ∨ o = 1 ∨ o = 2) (f : Nat → Value) :
    decMid.wp Tryf.prog Q { tmps := #[f 0, f 1, f 2, f 3, f 4, .pointer (some ⟨r, 0, none⟩), .pointer (some ⟨p, 0, none⟩), .pointer (some ⟨d, 0, none⟩), f 8, .int .i64 (ub : Int), .int .i64 (ob : Int), .int .i64 ((it + 1 : Nat) : Int), f 12, .int .i64 (o : Int), .int .i64 (arg : Int), f 15, f 16, f 17, f 18, f 19, f 20, f 21, f 22, f 23, f 24, f 25, f 26, f 27, f 28, f 29, f 30, f 31, f 32, f 33, f 34, f 35, f 36, f 37, f 38, f 39, f 40, f 41, f 42, f 43, f 44, f 45, f 46, f 47, f 48, f 49, f 50, f 51, f 52, f 53, f 54, f 55, f 56, f 57, f 58, f 59, f 60, f 61, f 62, f 63, f 64, f 65, f 66, f 67, f 68, f 69, f 70, f 71, f 72, f 73, f 74, f 75, f 76, f 77, f 78, f 79, f 80, f 81, f 82, f 83, f 84, f 85, f 86, f 87, f 88, f 89, f 90, f 91, f 92, f 93, f 94, f 95, f 96, f 97, f 98, f 99, f 100, f 101, f 102, f 103, f 104, f 105, f 106, f 107, f 108, f 109, f 110, f 111, f 112, f 113, f 114, f 115, f 116, f 117, f 118, f 119, f 120, f 121, f 122, f 123, f 124, f 125, f 126, f 127, f 128, f 129, f 130, f 131, f 132, f 133, f 134, f 135, f 136, f 137, f 138, f 139, f 140, f 141, f 142, f 143, f 144, f 145, f 146, f 147, f 148, f 149, f 150, f 151, f 152, f 153, f 154, f 155, f 156, f 157, f 158, f 159, f 160, f 161, f 162, f 163, f 164, f 165, f 166, f 167, f 168, f 169, f 170, f 171, f 172, f 173, f 174, f 175, f 176, f 177, f 178, f 179, f 180, f 181, f 182, f 183, f 184, f 185, f 186, f 187, f 188, f 189, f 190, f 191, f 192, f 193, f 194, f 195, f 196, f 197, f 198, f 199, f 200, f 201, f 202, f 203, f 204, f 205, f 206, f 207, f 208, f 209, f 210, f 211, f 212, f 213, f 214, f 215, f 216, f 217, f 218, f 219, f 220, f 221, f 222, f 223, f 224, f 225, f 226, f 227, f 228, f 229, f 230, f 231, f 232, f 233, f 234, f 235, f 236, f 237, f 238, f 239, f 240, f 241, f 242, f 243, f 244, f 245, f 246, f 247, f 248, f 249, f 250, f 251, f 252, f 253, f 254, f 255, f 256, f 257, f 258, f 259, f 260, f 261, f 262, f 263, f 264, f 265, f 266, f 267, f 268, f 269, f 270, f 271, f 272, f 273, f 274, f 275, f 276, f 277, f 278, f 279, f 280, f 281, f 282, f 283, f 284, f 285, f 286, f 287, f 288, f 289, f 290, f 291, f 292, f 293, f 294, f 295, f 296, f 297, f 298, f 299, f 300, f 301, f 302, f 303, f 304, f 305, f 306, f 307, f 308, f 309, f 310, f 311, f 312, f 313, f 314, f 315, f 316, f 317, f 318, f 319, f 320, f 321, f 322, f 323, f 324, f 325, f 326, f 327, f 328, f 329, f 330, f 331, f 332, f 333, f 334, f 335, f 336, f 337, f 338, f 339, f 340, f 341, f 342, f 343, f 344, f 345, f 346, f 347, f 348, f 349, f 350, f 351, f 352, f 353, f 354, f 355, f 356, f 357, f 358, f 359, f 360, f 361, f 362, f 363, f 364, f 365, f 366, f 367, f 368, f 369, f 370, f 371, f 372, f 373, f 374, f 375, f 376, f 377, f 378, f 379, f 380, f 381, f 382, f 383, f 384, f 385, f 386, f 387, f 388, f 389, f 390, f 391, f 392, f 393, f 394, f 395, f 396, f 397, f 398, f 399, f 400, f 401, f 402, f 403, f 404, f 405, f 406, f 407], defers := [] } w2 := by
  have hW3 := hW.nc12
  have hW4 := hW.op3
  have hW6 := hW.ctl
  have hW7 := hW.ub2
  have kd1 := blk_cell hS.dblk 1 _ rfl
  have kp4 := blk_cell hS.pblk 4 _ rfl
  rw [hC.on] at kd1
  have HKK := Lib.hid hN
  have HW := Lib.hid hW
  have H2 := Lib.hid hS
  have HC := Lib.hid hC
  clear hN hW hS hC
  conv => arg 2; whnf
  rcases ho3 with rfl | rfl | rfl
  · go_upto_if 111 with (fail)
    rename_i hK
    have HK := Lib.hid hK
    clear hK
    go_wp2_with fail
    refine HK.out _ _ ?_
    refine wp_same (c' := decTail) (by kernel_rfl) ?_
    refine sw_cls_at (o := 0) H2.out HC.out HW.out hit hob (fun a' w' h1 h2 => HKK.out a' w' h1 h2) (.slice none 0 0) (by omega) harg ?_ ?_ ?_ ?_ ?_ ?_ ?_ ?_ ?_ ?_ ?_
    all_goals first | rfl | exact dint_is (by omega)
  · go_upto_if 111 with (fail)
    rename_i hK
    have HK := Lib.hid hK
    clear hK
    go_wp2_with fail
    refine HK.out _ _ ?_
    refine wp_same (c' := decTail) (by kernel_rfl) ?_
    refine sw_cls_at (o := 1) H2.out HC.out HW.out hit hob (fun a' w' h1 h2 => HKK.out a' w' h1 h2) (.slice none 0 0) (by omega) harg ?_ ?_ ?_ ?_ ?_ ?_ ?_ ?_ ?_ ?_ ?_
    all_goals first | rfl | exact dint_is (by omega)
  · go_upto_if 111 with (fail)
    rename_i hK
    have HK := Lib.hid hK
    clear hK
    go_wp2_with fail
    refine HK.out _ _ ?_
    refine wp_same (c' := decTail) (by kernel_rfl) ?_
    refine sw_cls_at (o := 2) H2.out HC.out HW.out hit hob (fun a' w' h1 h2 => HKK.out a' w' h1 h2) (.slice none 0 0) (by omega) harg ?_ ?_ ?_ ?_ ?_ ?_ ?_ ?_ ?_ ?_ ?_
    all_goals first | rfl | exact dint_is (by omega)
theorem db_cls0_at {w0 w2 : World} {B r p d nc ub ob it o arg : Nat} {an tl : Bool} {R : Fin 6 → Rw} {ts : List Tk} {txt : List Int} {ps : List Bool} {op ct cl : List Nat} {Q : Exit → Act → World → Prop}
    (hS : DecS w0 w2 B r p d an tl nc R ts) (hC : Cont R txt ps op ct cl) (hW : DWf an nc ts txt ps op ct cl ub it) (hit : it < 4096) (hob : ob ≤ 2) (harg : arg ≤ 31)
    (hN : ∀ a' w', DFr r p d a' → DRel w0 B r p d an tl w' (it + 1) a' → Q .normal a' w') (ho3 : o = 0 ∨ o = 1 ∨ o = 2) {a : Act} (hdf : a.defers = []) (hsz : a.tmps.size = 408) (h5 : a.tmps[5]? = some (.pointer (some ⟨r, 0, none⟩))) (h6 : a.tmps[6]? = some (.pointer (some ⟨p, 0, none⟩))) (h7 : a.tmps[7]? = some (.pointer (some ⟨d, 0, none⟩))) (h9 : a.tmps[9]? = some (.int .i64 (ub : Int))) (h10 : a.tmps[10]? = some (.int .i64 (ob : Int))) (h11 : a.tmps[11]? = some (.int .i64 ((it + 1 : Nat) : Int))) (h13 : a.tmps[13]? = some (.int .i64 (o : Int))) (h14 : a.tmps[14]? = some (.int .i64 (arg : Int))) : decMid.wp Tryf.prog Q a w2 := by
  obtain ⟨f, hfr⟩ := dframe_litM a.tmps hsz h5 h6 h7 h9 h10 h11 h13 h14
  rw [dact_is hdf, hfr]
  exact db_cls0 hS hC hW hit hob harg hN ho3 f
set_option maxRecDepth 1000000 in
set_option maxHeartbeats 8000000 in
theorem db_opn {w0 w2 : World} {B r p d nc ub ob it o arg : Nat} {an tl : Bool} {R : Fin 6 → Rw} {ts : List Tk} {txt : List Int} {ps : List Bool} {op ct cl : List Nat} {Q : Exit → Act → World → Prop}
    (hS : DecS w0 w2 B r p d an tl nc R ts) (hC : Cont R txt ps op ct cl) (hW : DWf an nc ts txt ps op ct cl ub it) (hit : it < 4096) (hob : ob ≤ 2) (harg : arg ≤ 31)
    (hN : ∀ a' w', DFr r p d a' → DRel w0 B r p d an tl w' (it + 1) a' → Q .normal a' w') (ho3 : o = 3) (f : Nat → Value) :
    decMid.wp Tryf.prog Q { tmps := #[f 0, f 1, f 2, f 3, f 4, .pointer (some ⟨r, 0, none⟩), .pointer (some ⟨p, 0, none⟩), .pointer (some ⟨d, 0, none⟩), f 8, .int .i64 (ub : Int), .int .i64 (ob : Int), .int .i64 ((it + 1 : Nat) : Int), f 12, .int .i64 (o : Int), .int .i64 (arg : Int), f 15, f 16, f 17, f 18, f 19, f 20, f 21, f 22, f 23, f 24, f 25, f 26, f 27, f 28, f 29, f 30, f 31, f 32, f 33, f 34, f 35, f 36, f 37, f 38, f 39, f 40, f 41, f 42, f 43, f 44, f 45, f 46, f 47, f 48, f 49, f 50, f 51, f 52, f 53, f 54, f 55, f 56, f 57, f 58, f 59, f 60, f 61, f 62, f 63, f 64, f 65, f 66, f 67, f 68, f 69, f 70, f 71, f 72, f 73, f 74, f 75, f 76, f 77, f 78, f 79, f 80, f 81, f 82, f 83, f 84, f 85, f 86, f 87, f 88, f 89, f 90, f 91, f 92, f 93, f 94, f 95, f 96, f 97, f 98, f 99, f 100, f 101, f 102, f 103, f 104, f 105, f 106, f 107, f 108, f 109, f 110, f 111, f 112, f 113, f 114, f 115, f 116, f 117, f 118, f 119, f 120, f 121, f 122, f 123, f 124, f 125, f 126, f 127, f 128, f 129, f 130, f 131, f 132, f 133, f 134, f 135, f 136, f 137, f 138, f 139, f 140, f 141, f 142, f 143, f 144, f 145, f 146, f 147, f 148, f 149, f 150, f 151, f 152, f 153, f 154, f 155, f 156, f 157, f 158, f 159, f 160, f 161, f 162, f 163, f 164, f 165, f 166, f 167, f 168, f 169, f 170, f 171, f 172, f 173, f 174, f 175, f 176, f 177, f 178, f 179, f 180, f 181, f 182, f 183, f 184, f 185, f 186, f 187, f 188, f 189, f 190, f 191, f 192, f 193, f 194, f 195, f 196, f 197, f 198, f 199, f 200, f 201, f 202, f 203, f 204, f 205, f 206, f 207, f 208, f 209, f 210, f 211, f 212, f 213, f 214, f 215, f 216, f 217, f 218, f 219, f 220, f 221, f 222, f 223, f 224, f 225, f 226, f 227, f 228, f 229, f 230, f 231, f 232, f 233, f 234, f 235, f 236, f 237, f 238, f 239, f 240, f 241, f 242, f 243, f 244, f 245, f 246, f 247, f 248, f 249, f 250, f 251, f 252, f 253, f 254, f 255, f 256, f 257, f 258, f 259, f 260, f 261, f 262, f 263, f 264, f 265, f 266, f 267, f 268, f 269, f 270, f 271, f 272, f 273, f 274, f 275, f 276, f 277, f 278, f 279, f 280, f 281, f 282, f 283, f 284, f 285, f 286, f 287, f 288, f 289, f 290, f 291, f 292, f 293, f 294, f 295, f 296, f 297, f 298, f 299, f 300, f 301, f 302, f 303, f 304, f 305, f 306, f 307, f 308, f 309, f 310, f 311, f 312, f 313, f 314, f 315, f 316, f 317, f 318, f 319, f 320, f 321, f 322, f 323, f 324, f 325, f 326, f 327, f 328, f 329, f 330, f 331, f 332, f 333, f 334, f 335, f 336, f 337, f 338, f 339, f 340, f 341, f 342, f 343, f 344, f 345, f 346, f 347, f 348, f 349, f 350, f 351, f 352, f 353, f 354, f 355, f 356, f 357, f 358, f 359, f 360, f 361, f 362, f 363, f 364, f 365, f 366, f 367, f 368, f 369, f 370, f 371, f 372, f 373, f 374, f 375, f 376, f 377, f 378, f 379, f 380, f 381, f 382, f 383, f 384, f 385, f 386, f 387, f 388, f 389, f 390, f 391, f 392, f 393, f 394, f 395, f 396, f 397, f 398, f 399, f 400, f 401, f 402, f 403, f 404, f 405, f 406, f 407], defers := [] } w2 := by
  have hW3 := hW.nc12
  have hW4 := hW.op3
  have hW6 := hW.ctl
  have hW7 := hW.ub2
  have kd1 := blk_cell hS.dblk 1 _ rfl
  have kp4 := blk_cell hS.pblk 4 _ rfl
  rw [hC.on] at kd1
  have HKK := Lib.hid hN
  have HW := Lib.hid hW
  have H2 := Lib.hid hS
  have HC := Lib.hid hC
  clear hN hW hS hC
  conv => arg 2; whnf
  subst ho3
  by_cases h3 : 3 ≤ op.length
  · have t3 : decide (3 ≤ (op.length : Int)) = true := decide_eq_true (by omega)
    have t3n : decide (3 ≤ op.length) = true := decide_eq_true (by omega)
    go_upto_if 111 with (fail)
    rename_i hK
    have HK := Lib.hid hK
    clear hK
    go_wp2_with fail
    refine HK.out _ _ ?_
    refine wp_same (c' := decTail) (by kernel_rfl) ?_
    refine sw_cls_at (o := 0) H2.out HC.out HW.out hit hob (fun a' w' h1 h2 => HKK.out a' w' h1 h2) (.slice none 0 0) (by omega) harg ?_ ?_ ?_ ?_ ?_ ?_ ?_ ?_ ?_ ?_ ?_
    all_goals first | rfl | exact dint_is (by omega)
  · have t3 : decide (3 ≤ (op.length : Int)) = false := decide_eq_false (by omega)
    have t3n : decide (3 ≤ op.length) = false := decide_eq_false (by omega)
    by_cases h12 : 12 ≤ nc
    · have t12 : decide (12 ≤ (nc : Int)) = true := decide_eq_true (by omega)
      have t12n : decide (12 ≤ nc) = true := decide_eq_true (by omega)
      go_upto_if 111 with (fail)
      rename_i hK
      have HK := Lib.hid hK
      clear hK
      go_wp2_with fail
      refine HK.out _ _ ?_
      refine wp_same (c' := decTail) (by kernel_rfl) ?_
      refine sw_cls_at (o := 0) H2.out HC.out HW.out hit hob (fun a' w' h1 h2 => HKK.out a' w' h1 h2) (.slice none 0 0) (by omega) harg ?_ ?_ ?_ ?_ ?_ ?_ ?_ ?_ ?_ ?_ ?_
      all_goals first | rfl | exact dint_is (by omega)
    · have t12 : decide (12 ≤ (nc : Int)) = false := decide_eq_false (by omega)
      have t12n : decide (12 ≤ nc) = false := decide_eq_false (by omega)
      go_upto_if 111 with (fail)
      rename_i hK
      have HK := Lib.hid hK
      clear hK
      go_wp2_with fail
      refine HK.out _ _ ?_
      refine wp_same (c' := decTail) (by kernel_rfl) ?_
      refine sw_opn_at (arg := arg) H2.out HC.out HW.out hit hob (fun a' w' h1 h2 => HKK.out a' w' h1 h2) (.slice none 0 0) (by omega) (by omega) ?_ ?_ ?_ ?_ ?_ ?_ ?_ ?_ ?_ ?_ ?_
      all_goals first | rfl | exact dint_is (by omega)
theorem db_opn_at {w0 w2 : World} {B r p d nc ub ob it o arg : Nat} {an tl : Bool} {R : Fin 6 → Rw} {ts : List Tk} {txt : List Int} {ps : List Bool} {op ct cl : List Nat} {Q : Exit → Act → World → Prop}
    (hS : DecS w0 w2 B r p d an tl nc R ts) (hC : Cont R txt ps op ct cl) (hW : DWf an nc ts txt ps op ct cl ub it) (hit : it < 4096) (hob : ob ≤ 2) (harg : arg ≤ 31)
    (hN : ∀ a' w', DFr r p d a' → DRel w0 B r p d an tl w' (it + 1) a' → Q .normal a' w') (ho3 : o = 3) {a : Act} (hdf : a.defers = []) (hsz : a.tmps.size = 408) (h5 : a.tmps[5]? = some (.pointer (some ⟨r, 0, none⟩))) (h6 : a.tmps[6]? = some (.pointer (some ⟨p, 0, none⟩))) (h7 : a.tmps[7]? = some (.pointer (some ⟨d, 0, none⟩))) (h9 : a.tmps[9]? = some (.int .i64 (ub : Int))) (h10 : a.tmps[10]? = some (.int .i64 (ob : Int))) (h11 : a.tmps[11]? = some (.int .i64 ((it + 1 : Nat) : Int))) (h13 : a.tmps[13]? = some (.int .i64 (o : Int))) (h14 : a.tmps[14]? = some (.int .i64 (arg : Int))) : decMid.wp Tryf.prog Q a w2 := by
  obtain ⟨f, hfr⟩ := dframe_litM a.tmps hsz h5 h6 h7 h9 h10 h11 h13 h14
  rw [dact_is hdf, hfr]
  exact db_opn hS hC hW hit hob harg hN ho3 f
set_option maxRecDepth 1000000 in
set_option maxHeartbeats 8000000 in
theorem db_pos {w0 w2 : World} {B r p d nc ub ob it o arg : Nat} {an tl : Bool} {R : Fin 6 → Rw} {ts : List Tk} {txt : List Int} {ps : List Bool} {op ct cl : List Nat} {Q : Exit → Act → World → Prop}
    (hS : DecS w0 w2 B r p d an tl nc R ts) (hC : Cont R txt ps op ct cl) (hW : DWf an nc ts txt ps op ct cl ub it) (hit : it < 4096) (hob : ob ≤ 2) (harg : arg ≤ 31)
    (hN : ∀ a' w', DFr r p d a' → DRel w0 B r p d an tl w' (it + 1) a' → Q .normal a' w') (ho3 : o = 5) (f : Nat → Value) :
    decMid.wp Tryf.prog Q { tmps := #[f 0, f 1, f 2, f 3, f 4, .pointer (some ⟨r, 0, none⟩), .pointer (some ⟨p, 0, none⟩), .pointer (some ⟨d, 0, none⟩), f 8, .int .i64 (ub : Int), .int .i64 (ob : Int), .int .i64 ((it + 1 : Nat) : Int), f 12, .int .i64 (o : Int), .int .i64 (arg : Int), f 15, f 16, f 17, f 18, f 19, f 20, f 21, f 22, f 23, f 24, f 25, f 26, f 27, f 28, f 29, f 30, f 31, f 32, f 33, f 34, f 35, f 36, f 37, f 38, f 39, f 40, f 41, f 42, f 43, f 44, f 45, f 46, f 47, f 48, f 49, f 50, f 51, f 52, f 53, f 54, f 55, f 56, f 57, f 58, f 59, f 60, f 61, f 62, f 63, f 64, f 65, f 66, f 67, f 68, f 69, f 70, f 71, f 72, f 73, f 74, f 75, f 76, f 77, f 78, f 79, f 80, f 81, f 82, f 83, f 84, f 85, f 86, f 87, f 88, f 89, f 90, f 91, f 92, f 93, f 94, f 95, f 96, f 97, f 98, f 99, f 100, f 101, f 102, f 103, f 104, f 105, f 106, f 107, f 108, f 109, f 110, f 111, f 112, f 113, f 114, f 115, f 116, f 117, f 118, f 119, f 120, f 121, f 122, f 123, f 124, f 125, f 126, f 127, f 128, f 129, f 130, f 131, f 132, f 133, f 134, f 135, f 136, f 137, f 138, f 139, f 140, f 141, f 142, f 143, f 144, f 145, f 146, f 147, f 148, f 149, f 150, f 151, f 152, f 153, f 154, f 155, f 156, f 157, f 158, f 159, f 160, f 161, f 162, f 163, f 164, f 165, f 166, f 167, f 168, f 169, f 170, f 171, f 172, f 173, f 174, f 175, f 176, f 177, f 178, f 179, f 180, f 181, f 182, f 183, f 184, f 185, f 186, f 187, f 188, f 189, f 190, f 191, f 192, f 193, f 194, f 195, f 196, f 197, f 198, f 199, f 200, f 201, f 202, f 203, f 204, f 205, f 206, f 207, f 208, f 209, f 210, f 211, f 212, f 213, f 214, f 215, f 216, f 217, f 218, f 219, f 220, f 221, f 222, f 223, f 224, f 225, f 226, f 227, f 228, f 229, f 230, f 231, f 232, f 233, f 234, f 235, f 236, f 237, f 238, f 239, f 240, f 241, f 242, f 243, f 244, f 245, f 246, f 247, f 248, f 249, f 250, f 251, f 252, f 253, f 254, f 255, f 256, f 257, f 258, f 259, f 260, f 261, f 262, f 263, f 264, f 265, f 266, f 267, f 268, f 269, f 270, f 271, f 272, f 273, f 274, f 275, f 276, f 277, f 278, f 279, f 280, f 281, f 282, f 283, f 284, f 285, f 286, f 287, f 288, f 289, f 290, f 291, f 292, f 293, f 294, f 295, f 296, f 297, f 298, f 299, f 300, f 301, f 302, f 303, f 304, f 305, f 306, f 307, f 308, f 309, f 310, f 311, f 312, f 313, f 314, f 315, f 316, f 317, f 318, f 319, f 320, f 321, f 322, f 323, f 324, f 325, f 326, f 327, f 328, f 329, f 330, f 331, f 332, f 333, f 334, f 335, f 336, f 337, f 338, f 339, f 340, f 341, f 342, f 343, f 344, f 345, f 346, f 347, f 348, f 349, f 350, f 351, f 352, f 353, f 354, f 355, f 356, f 357, f 358, f 359, f 360, f 361, f 362, f 363, f 364, f 365, f 366, f 367, f 368, f 369, f 370, f 371, f 372, f 373, f 374, f 375, f 376, f 377, f 378, f 379, f 380, f 381, f 382, f 383, f 384, f 385, f 386, f 387, f 388, f 389, f 390, f 391, f 392, f 393, f 394, f 395, f 396, f 397, f 398, f 399, f 400, f 401, f 402, f 403, f 404, f 405, f 406, f 407], defers := [] } w2 := by
  have hW3 := hW.nc12
  have hW4 := hW.op3
  have hW6 := hW.ctl
  have hW7 := hW.ub2
  have kd1 := blk_cell hS.dblk 1 _ rfl
  have kp4 := blk_cell hS.pblk 4 _ rfl
  rw [hC.on] at kd1
  have HKK := Lib.hid hN
  have HW := Lib.hid hW
  have H2 := Lib.hid hS
  have HC := Lib.hid hC
  clear hN hW hS hC
  conv => arg 2; whnf
  subst ho3
  by_cases h12 : 12 ≤ nc
  · have t12 : decide (12 ≤ (nc : Int)) = true := decide_eq_true (by omega)
    have t12n : decide (12 ≤ nc) = true := decide_eq_true (by omega)
    go_upto_if 111 with (fail)
    rename_i hK
    have HK := Lib.hid hK
    clear hK
    go_wp2_with fail
    refine HK.out _ _ ?_
    refine wp_same (c' := decTail) (by kernel_rfl) ?_
    refine sw_cls_at (o := 2) H2.out HC.out HW.out hit hob (fun a' w' h1 h2 => HKK.out a' w' h1 h2) (.slice none 0 0) (by omega) harg ?_ ?_ ?_ ?_ ?_ ?_ ?_ ?_ ?_ ?_ ?_
    all_goals first | rfl | exact dint_is (by omega)
  · have t12 : decide (12 ≤ (nc : Int)) = false := decide_eq_false (by omega)
    have t12n : decide (12 ≤ nc) = false := decide_eq_false (by omega)
    go_upto_if 111 with (fail)
    rename_i hK
    have HK := Lib.hid hK
    clear hK
    go_wp2_with fail
    refine HK.out _ _ ?_
    refine wp_same (c' := decTail) (by kernel_rfl) ?_
    refine sw_pos_at (arg := arg) H2.out HC.out HW.out hit hob (fun a' w' h1 h2 => HKK.out a' w' h1 h2) (.slice none 0 0) (by omega) ?_ ?_ ?_ ?_ ?_ ?_ ?_ ?_ ?_ ?_ ?_
    all_goals first | rfl | exact dint_is (by omega)
theorem db_pos_at {w0 w2 : World} {B r p d nc ub ob it o arg : Nat} {an tl : Bool} {R : Fin 6 → Rw} {ts : List Tk} {txt : List Int} {ps : List Bool} {op ct cl : List Nat} {Q : Exit → Act → World → Prop}
    (hS : DecS w0 w2 B r p d an tl nc R ts) (hC : Cont R txt ps op ct cl) (hW : DWf an nc ts txt ps op ct cl ub it) (hit : it < 4096) (hob : ob ≤ 2) (harg : arg ≤ 31)
    (hN : ∀ a' w', DFr r p d a' → DRel w0 B r p d an tl w' (it + 1) a' → Q .normal a' w') (ho3 : o = 5) {a : Act} (hdf : a.defers = []) (hsz : a.tmps.size = 408) (h5 : a.tmps[5]? = some (.pointer (some ⟨r, 0, none⟩))) (h6 : a.tmps[6]? = some (.pointer (some ⟨p, 0, none⟩))) (h7 : a.tmps[7]? = some (.pointer (some ⟨d, 0, none⟩))) (h9 : a.tmps[9]? = some (.int .i64 (ub : Int))) (h10 : a.tmps[10]? = some (.int .i64 (ob : Int))) (h11 : a.tmps[11]? = some (.int .i64 ((it + 1 : Nat) : Int))) (h13 : a.tmps[13]? = some (.int .i64 (o : Int))) (h14 : a.tmps[14]? = some (.int .i64 (arg : Int))) : decMid.wp Tryf.prog Q a w2 := by
  obtain ⟨f, hfr⟩ := dframe_litM a.tmps hsz h5 h6 h7 h9 h10 h11 h13 h14
  rw [dact_is hdf, hfr]
  exact db_pos hS hC hW hit hob harg hN ho3 f
set_option maxRecDepth 1000000 in
set_option maxHeartbeats 8000000 in
theorem db_brc {w0 w2 : World} {B r p d nc ub ob it o arg : Nat} {an tl : Bool} {R : Fin 6 → Rw} {ts : List Tk} {txt : List Int} {ps : List Bool} {op ct cl : List Nat} {Q : Exit → Act → World → Prop}
    (hS : DecS w0 w2 B r p d an tl nc R ts) (hC : Cont R txt ps op ct cl) (hW : DWf an nc ts txt ps op ct cl ub it) (hit : it < 4096) (hob : ob ≤ 2) (harg : arg ≤ 31)
    (hN : ∀ a' w', DFr r p d a' → DRel w0 B r p d an tl w' (it + 1) a' → Q .normal a' w') (ho3 : o = 7) (f : Nat → Value) :
    decMid.wp Tryf.prog Q { tmps := #[f 0, f 1, f 2, f 3, f 4, .pointer (some ⟨r, 0, none⟩), .pointer (some ⟨p, 0, none⟩), .pointer (some ⟨d, 0, none⟩), f 8, .int .i64 (ub : Int), .int .i64 (ob : Int), .int .i64 ((it + 1 : Nat) : Int), f 12, .int .i64 (o : Int), .int .i64 (arg : Int), f 15, f 16, f 17, f 18, f 19, f 20, f 21, f 22, f 23, f 24, f 25, f 26, f 27, f 28, f 29, f 30, f 31, f 32, f 33, f 34, f 35, f 36, f 37, f 38, f 39, f 40, f 41, f 42, f 43, f 44, f 45, f 46, f 47, f 48, f 49, f 50, f 51, f 52, f 53, f 54, f 55, f 56, f 57, f 58, f 59, f 60, f 61, f 62, f 63, f 64, f 65, f 66, f 67, f 68, f 69, f 70, f 71, f 72, f 73, f 74, f 75, f 76, f 77, f 78, f 79, f 80, f 81, f 82, f 83, f 84, f 85, f 86, f 87, f 88, f 89, f 90, f 91, f 92, f 93, f 94, f 95, f 96, f 97, f 98, f 99, f 100, f 101, f 102, f 103, f 104, f 105, f 106, f 107, f 108, f 109, f 110, f 111, f 112, f 113, f 114, f 115, f 116, f 117, f 118, f 119, f 120, f 121, f 122, f 123, f 124, f 125, f 126, f 127, f 128, f 129, f 130, f 131, f 132, f 133, f 134, f 135, f 136, f 137, f 138, f 139, f 140, f 141, f 142, f 143, f 144, f 145, f 146, f 147, f 148, f 149, f 150, f 151, f 152, f 153, f 154, f 155, f 156, f 157, f 158, f 159, f 160, f 161, f 162, f 163, f 164, f 165, f 166, f 167, f 168, f 169, f 170, f 171, f 172, f 173, f 174, f 175, f 176, f 177, f 178, f 179, f 180, f 181, f 182, f 183, f 184, f 185, f 186, f 187, f 188, f 189, f 190, f 191, f 192, f 193, f 194, f 195, f 196, f 197, f 198, f 199, f 200, f 201, f 202, f 203, f 204, f 205, f 206, f 207, f 208, f 209, f 210, f 211, f 212, f 213, f 214, f 215, f 216, f 217, f 218, f 219, f 220, f 221, f 222, f 223, f 224, f 225, f 226, f 227, f 228, f 229, f 230, f 231, f 232, f 233, f 234, f 235, f 236, f 237, f 238, f 239, f 240, f 241, f 242, f 243, f 244, f 245, f 246, f 247, f 248, f 249, f 250, f 251, f 252, f 253, f 254, f 255, f 256, f 257, f 258, f 259, f 260, f 261, f 262, f 263, f 264, f 265, f 266, f 267, f 268, f 269, f 270, f 271, f 272, f 273, f 274, f 275, f 276, f 277, f 278, f 279, f 280, f 281, f 282, f 283, f 284, f 285, f 286, f 287, f 288, f 289, f 290, f 291, f 292, f 293, f 294, f 295, f 296, f 297, f 298, f 299, f 300, f 301, f 302, f 303, f 304, f 305, f 306, f 307, f 308, f 309, f 310, f 311, f 312, f 313, f 314, f 315, f 316, f 317, f 318, f 319, f 320, f 321, f 322, f 323, f 324, f 325, f 326, f 327, f 328, f 329, f 330, f 331, f 332, f 333, f 334, f 335, f 336, f 337, f 338, f 339, f 340, f 341, f 342, f 343, f 344, f 345, f 346, f 347, f 348, f 349, f 350, f 351, f 352, f 353, f 354, f 355, f 356, f 357, f 358, f 359, f 360, f 361, f 362, f 363, f 364, f 365, f 366, f 367, f 368, f 369, f 370, f 371, f 372, f 373, f 374, f 375, f 376, f 377, f 378, f 379, f 380, f 381, f 382, f 383, f 384, f 385, f 386, f 387, f 388, f 389, f 390, f 391, f 392, f 393, f 394, f 395, f 396, f 397, f 398, f 399, f 400, f 401, f 402, f 403, f 404, f 405, f 406, f 407], defers := [] } w2 := by
  have hW3 := hW.nc12
  have hW4 := hW.op3
  have hW6 := hW.ctl
  have hW7 := hW.ub2
  have kd1 := blk_cell hS.dblk 1 _ rfl
  have kp4 := blk_cell hS.pblk 4 _ rfl
  rw [hC.on] at kd1
  have HKK := Lib.hid hN
  have HW := Lib.hid hW
  have H2 := Lib.hid hS
  have HC := Lib.hid hC
  clear hN hW hS hC
  conv => arg 2; whnf
  subst ho3
  go_upto_if 111 with (fail)
  rename_i hK
  have HK := Lib.hid hK
  clear hK
  go_wp2_with fail
  refine HK.out _ _ ?_
  refine wp_same (c' := decTail) (by kernel_rfl) ?_
  refine sw_brc_at  H2.out HC.out HW.out hit hob (fun a' w' h1 h2 => HKK.out a' w' h1 h2) (.slice none 0 0) harg ?_ ?_ ?_ ?_ ?_ ?_ ?_ ?_ ?_ ?_ ?_
  all_goals first | rfl | exact dint_is (by omega)
theorem db_brc_at {w0 w2 : World} {B r p d nc ub ob it o arg : Nat} {an tl : Bool} {R : Fin 6 → Rw} {ts : List Tk} {txt : List Int} {ps : List Bool} {op ct cl : List Nat} {Q : Exit → Act → World → Prop}
    (hS : DecS w0 w2 B r p d an tl nc R ts) (hC : Cont R txt ps op ct cl) (hW : DWf an nc ts txt ps op ct cl ub it) (hit : it < 4096) (hob : ob ≤ 2) (harg : arg ≤ 31)
    (hN : ∀ a' w', DFr r p d a' → DRel w0 B r p d an tl w' (it + 1) a' → Q .normal a' w') (ho3 : o = 7) {a : Act} (hdf : a.defers = []) (hsz : a.tmps.size = 408) (h5 : a.tmps[5]? = some (.pointer (some ⟨r, 0, none⟩))) (h6 : a.tmps[6]? = some (.pointer (some ⟨p, 0, none⟩))) (h7 : a.tmps[7]? = some (.pointer (some ⟨d, 0, none⟩))) (h9 : a.tmps[9]? = some (.int .i64 (ub : Int))) (h10 : a.tmps[10]? = some (.int .i64 (ob : Int))) (h11 : a.tmps[11]? = some (.int .i64 ((it + 1 : Nat) : Int))) (h13 : a.tmps[13]? = some (.int .i64 (o : Int))) (h14 : a.tmps[14]? = some (.int .i64 (arg : Int))) : decMid.wp Tryf.prog Q a w2 := by
  obtain ⟨f, hfr⟩ := dframe_litM a.tmps hsz h5 h6 h7 h9 h10 h11 h13 h14
  rw [dact_is hdf, hfr]
  exact db_brc hS hC hW hit hob harg hN ho3 f
set_option maxRecDepth 1000000 in
set_option maxHeartbeats 8000000 in
theorem db_clo {w0 w2 : World} {B r p d nc ub ob it o arg : Nat} {an tl : Bool} {R : Fin 6 → Rw} {ts : List Tk} {txt : List Int} {ps : List Bool} {op ct cl : List Nat} {Q : Exit → Act → World → Prop}
    (hS : DecS w0 w2 B r p d an tl nc R ts) (hC : Cont R txt ps op ct cl) (hW : DWf an nc ts txt ps op ct cl ub it) (hit : it < 4096) (hob : ob ≤ 2) (harg : arg ≤ 31)
    (hN : ∀ a' w', DFr r p d a' → DRel w0 B r p d an tl w' (it + 1) a' → Q .normal a' w') (ho3 : o = 4) (f : Nat → Value) :
    decMid.wp Tryf.prog Q { tmps := #[f 0, f 1, f 2, f 3, f 4, .pointer (some ⟨r, 0, none⟩), .pointer (some ⟨p, 0, none⟩), .pointer (some ⟨d, 0, none⟩), f 8, .int .i64 (ub : Int), .int .i64 (ob : Int), .int .i64 ((it + 1 : Nat) : Int), f 12, .int .i64 (o : Int), .int .i64 (arg : Int), f 15, f 16, f 17, f 18, f 19, f 20, f 21, f 22, f 23, f 24, f 25, f 26, f 27, f 28, f 29, f 30, f 31, f 32, f 33, f 34, f 35, f 36, f 37, f 38, f 39, f 40, f 41, f 42, f 43, f 44, f 45, f 46, f 47, f 48, f 49, f 50, f 51, f 52, f 53, f 54, f 55, f 56, f 57, f 58, f 59, f 60, f 61, f 62, f 63, f 64, f 65, f 66, f 67, f 68, f 69, f 70, f 71, f 72, f 73, f 74, f 75, f 76, f 77, f 78, f 79, f 80, f 81, f 82, f 83, f 84, f 85, f 86, f 87, f 88, f 89, f 90, f 91, f 92, f 93, f 94, f 95, f 96, f 97, f 98, f 99, f 100, f 101, f 102, f 103, f 104, f 105, f 106, f 107, f 108, f 109, f 110, f 111, f 112, f 113, f 114, f 115, f 116, f 117, f 118, f 119, f 120, f 121, f 122, f 123, f 124, f 125, f 126, f 127, f 128, f 129, f 130, f 131, f 132, f 133, f 134, f 135, f 136, f 137, f 138, f 139, f 140, f 141, f 142, f 143, f 144, f 145, f 146, f 147, f 148, f 149, f 150, f 151, f 152, f 153, f 154, f 155, f 156, f 157, f 158, f 159, f 160, f 161, f 162, f 163, f 164, f 165, f 166, f 167, f 168, f 169, f 170, f 171, f 172, f 173, f 174, f 175, f 176, f 177, f 178, f 179, f 180, f 181, f 182, f 183, f 184, f 185, f 186, f 187, f 188, f 189, f 190, f 191, f 192, f 193, f 194, f 195, f 196, f 197, f 198, f 199, f 200, f 201, f 202, f 203, f 204, f 205, f 206, f 207, f 208, f 209, f 210, f 211, f 212, f 213, f 214, f 215, f 216, f 217, f 218, f 219, f 220, f 221, f 222, f 223, f 224, f 225, f 226, f 227, f 228, f 229, f 230, f 231, f 232, f 233, f 234, f 235, f 236, f 237, f 238, f 239, f 240, f 241, f 242, f 243, f 244, f 245, f 246, f 247, f 248, f 249, f 250, f 251, f 252, f 253, f 254, f 255, f 256, f 257, f 258, f 259, f 260, f 261, f 262, f 263, f 264, f 265, f 266, f 267, f 268, f 269, f 270, f 271, f 272, f 273, f 274, f 275, f 276, f 277, f 278, f 279, f 280, f 281, f 282, f 283, f 284, f 285, f 286, f 287, f 288, f 289, f 290, f 291, f 292, f 293, f 294, f 295, f 296, f 297, f 298, f 299, f 300, f 301, f 302, f 303, f 304, f 305, f 306, f 307, f 308, f 309, f 310, f 311, f 312, f 313, f 314, f 315, f 316, f 317, f 318, f 319, f 320, f 321, f 322, f 323, f 324, f 325, f 326, f 327, f 328, f 329, f 330, f 331, f 332, f 333, f 334, f 335, f 336, f 337, f 338, f 339, f 340, f 341, f 342, f 343, f 344, f 345, f 346, f 347, f 348, f 349, f 350, f 351, f 352, f 353, f 354, f 355, f 356, f 357, f 358, f 359, f 360, f 361, f 362, f 363, f 364, f 365, f 366, f 367, f 368, f 369, f 370, f 371, f 372, f 373, f 374, f 375, f 376, f 377, f 378, f 379, f 380, f 381, f 382, f 383, f 384, f 385, f 386, f 387, f 388, f 389, f 390, f 391, f 392, f 393, f 394, f 395, f 396, f 397, f 398, f 399, f 400, f 401, f 402, f 403, f 404, f 405, f 406, f 407], defers := [] } w2 := by
  have hW3 := hW.nc12
  have hW4 := hW.op3
  have hW6 := hW.ctl
  have hW7 := hW.ub2
  have kd1 := blk_cell hS.dblk 1 _ rfl
  have kp4 := blk_cell hS.pblk 4 _ rfl
  rw [hC.on] at kd1
  have HKK := Lib.hid hN
  have HW := Lib.hid hW
  have H2 := Lib.hid hS
  have HC := Lib.hid hC
  clear hN hW hS hC
  conv => arg 2; whnf
  subst ho3
  rcases List.eq_nil_or_concat op with hop | ⟨op0, n, hop⟩
  · rw [hop] at kd1
    go_upto_if 111 with (fail)
    rename_i hK
    have HK := Lib.hid hK
    clear hK
    go_wp2_with fail
    refine HK.out _ _ ?_
    refine wp_same (c' := decTail) (by kernel_rfl) ?_
    refine sw_cls_at (o := 1) H2.out HC.out HW.out hit hob (fun a' w' h1 h2 => HKK.out a' w' h1 h2) (.slice none 0 0) (by omega) harg ?_ ?_ ?_ ?_ ?_ ?_ ?_ ?_ ?_ ?_ ?_
    all_goals first | rfl | exact dint_is (by omega)
  · rw [List.concat_eq_append] at hop
    rcases List.eq_nil_or_concat ct with hct | ⟨ct0, c, hct⟩
    · rw [hct, hop] at hW6; simp at hW6
    · rw [List.concat_eq_append] at hct
      obtain ⟨m, hm⟩ : ∃ m, op.length = m := ⟨_, rfl⟩
      have hm0 : m ≠ 0 := by rw [← hm, hop]; simp
      rw [hm] at kd1
      have tm : ((m : Int) == 0) = false := by rw [beq_eq_false_iff_ne]; omega
      have HOP := Lib.hid hop
      have HCT := Lib.hid hct
      clear hop hct hm
      go_upto_if 111 with (fail)
      rename_i hK
      have HK := Lib.hid hK
      clear hK
      go_wp2_with fail
      refine HK.out _ _ ?_
      refine wp_same (c' := decTail) (by kernel_rfl) ?_
      refine sw_clo_at (arg := arg) H2.out HC.out HW.out hit hob (fun a' w' h1 h2 => HKK.out a' w' h1 h2) (.slice none 0 0) HOP.out HCT.out ?_ ?_ ?_ ?_ ?_ ?_ ?_ ?_ ?_ ?_ ?_
      all_goals first | rfl | exact dint_is (by omega)
theorem db_clo_at {w0 w2 : World} {B r p d nc ub ob it o arg : Nat} {an tl : Bool} {R : Fin 6 → Rw} {ts : List Tk} {txt : List Int} {ps : List Bool} {op ct cl : List Nat} {Q : Exit → Act → World → Prop}
    (hS : DecS w0 w2 B r p d an tl nc R ts) (hC : Cont R txt ps op ct cl) (hW : DWf an nc ts txt ps op ct cl ub it) (hit : it < 4096) (hob : ob ≤ 2) (harg : arg ≤ 31)
    (hN : ∀ a' w', DFr r p d a' → DRel w0 B r p d an tl w' (it + 1) a' → Q .normal a' w') (ho3 : o = 4) {a : Act} (hdf : a.defers = []) (hsz : a.tmps.size = 408) (h5 : a.tmps[5]? = some (.pointer (some ⟨r, 0, none⟩))) (h6 : a.tmps[6]? = some (.pointer (some ⟨p, 0, none⟩))) (h7 : a.tmps[7]? = some (.pointer (some ⟨d, 0, none⟩))) (h9 : a.tmps[9]? = some (.int .i64 (ub : Int))) (h10 : a.tmps[10]? = some (.int .i64 (ob : Int))) (h11 : a.tmps[11]? = some (.int .i64 ((it + 1 : Nat) : Int))) (h13 : a.tmps[13]? = some (.int .i64 (o : Int))) (h14 : a.tmps[14]? = some (.int .i64 (arg : Int))) : decMid.wp Tryf.prog Q a w2 := by
  obtain ⟨f, hfr⟩ := dframe_litM a.tmps hsz h5 h6 h7 h9 h10 h11 h13 h14
  rw [dact_is hdf, hfr]
  exact db_clo hS hC hW hit hob harg hN ho3 f
set_option maxRecDepth 1000000 in
set_option maxHeartbeats 8000000 in
theorem db_ref {w0 w2 : World} {B r p d nc ub ob it o arg : Nat} {an tl : Bool} {R : Fin 6 → Rw} {ts : List Tk} {txt : List Int} {ps : List Bool} {op ct cl : List Nat} {Q : Exit → Act → World → Prop}
    (hS : DecS w0 w2 B r p d an tl nc R ts) (hC : Cont R txt ps op ct cl) (hW : DWf an nc ts txt ps op ct cl ub it) (hit : it < 4096) (hob : ob ≤ 2) (harg : arg ≤ 31)
    (hN : ∀ a' w', DFr r p d a' → DRel w0 B r p d an tl w' (it + 1) a' → Q .normal a' w') (ho3 : o = 6) (f : Nat → Value) :
    decMid.wp Tryf.prog Q { tmps := #[f 0, f 1, f 2, f 3, f 4, .pointer (some ⟨r, 0, none⟩), .pointer (some ⟨p, 0, none⟩), .pointer (some ⟨d, 0, none⟩), f 8, .int .i64 (ub : Int), .int .i64 (ob : Int), .int .i64 ((it + 1 : Nat) : Int), f 12, .int .i64 (o : Int), .int .i64 (arg : Int), f 15, f 16, f 17, f 18, f 19, f 20, f 21, f 22, f 23, f 24, f 25, f 26, f 27, f 28, f 29, f 30, f 31, f 32, f 33, f 34, f 35, f 36, f 37, f 38, f 39, f 40, f 41, f 42, f 43, f 44, f 45, f 46, f 47, f 48, f 49, f 50, f 51, f 52, f 53, f 54, f 55, f 56, f 57, f 58, f 59, f 60, f 61, f 62, f 63, f 64, f 65, f 66, f 67, f 68, f 69, f 70, f 71, f 72, f 73, f 74, f 75, f 76, f 77, f 78, f 79, f 80, f 81, f 82, f 83, f 84, f 85, f 86, f 87, f 88, f 89, f 90, f 91, f 92, f 93, f 94, f 95, f 96, f 97, f 98, f 99, f 100, f 101, f 102, f 103, f 104, f 105, f 106, f 107, f 108, f 109, f 110, f 111, f 112, f 113, f 114, f 115, f 116, f 117, f 118, f 119, f 120, f 121, f 122, f 123, f 124, f 125, f 126, f 127, f 128, f 129, f 130, f 131, f 132, f 133, f 134, f 135, f 136, f 137, f 138, f 139, f 140, f 141, f 142, f 143, f 144, f 145, f 146, f 147, f 148, f 149, f 150, f 151, f 152, f 153, f 154, f 155, f 156, f 157, f 158, f 159, f 160, f 161, f 162, f 163, f 164, f 165, f 166, f 167, f 168, f 169, f 170, f 171, f 172, f 173, f 174, f 175, f 176, f 177, f 178, f 179, f 180, f 181, f 182, f 183, f 184, f 185, f 186, f 187, f 188, f 189, f 190, f 191, f 192, f 193, f 194, f 195, f 196, f 197, f 198, f 199, f 200, f 201, f 202, f 203, f 204, f 205, f 206, f 207, f 208, f 209, f 210, f 211, f 212, f 213, f 214, f 215, f 216, f 217, f 218, f 219, f 220, f 221, f 222, f 223, f 224, f 225, f 226, f 227, f 228, f 229, f 230, f 231, f 232, f 233, f 234, f 235, f 236, f 237, f 238, f 239, f 240, f 241, f 242, f 243, f 244, f 245, f 246, f 247, f 248, f 249, f 250, f 251, f 252, f 253, f 254, f 255, f 256, f 257, f 258, f 259, f 260, f 261, f 262, f 263, f 264, f 265, f 266, f 267, f 268, f 269, f 270, f 271, f 272, f 273, f 274, f 275, f 276, f 277, f 278, f 279, f 280, f 281, f 282, f 283, f 284, f 285, f 286, f 287, f 288, f 289, f 290, f 291, f 292, f 293, f 294, f 295, f 296, f 297, f 298, f 299, f 300, f 301, f 302, f 303, f 304, f 305, f 306, f 307, f 308, f 309, f 310, f 311, f 312, f 313, f 314, f 315, f 316, f 317, f 318, f 319, f 320, f 321, f 322, f 323, f 324, f 325, f 326, f 327, f 328, f 329, f 330, f 331, f 332, f 333, f 334, f 335, f 336, f 337, f 338, f 339, f 340, f 341, f 342, f 343, f 344, f 345, f 346, f 347, f 348, f 349, f 350, f 351, f 352, f 353, f 354, f 355, f 356, f 357, f 358, f 359, f 360, f 361, f 362, f 363, f 364, f 365, f 366, f 367, f 368, f 369, f 370, f 371, f 372, f 373, f 374, f 375, f 376, f 377, f 378, f 379, f 380, f 381, f 382, f 383, f 384, f 385, f 386, f 387, f 388, f 389, f 390, f 391, f 392, f 393, f 394, f 395, f 396, f 397, f 398, f 399, f 400, f 401, f 402, f 403, f 404, f 405, f 406, f 407], defers := [] } w2 := by
  have hW3 := hW.nc12
  have hW4 := hW.op3
  have hW6 := hW.ctl
  have hW7 := hW.ub2
  have kd1 := blk_cell hS.dblk 1 _ rfl
  have kp4 := blk_cell hS.pblk 4 _ rfl
  rw [hC.on] at kd1
  have HKK := Lib.hid hN
  have HW := Lib.hid hW
  have H2 := Lib.hid hS
  have HC := Lib.hid hC
  clear hN hW hS hC
  conv => arg 2; whnf
  subst ho3
  obtain ⟨ii, hii, hi0, hi1, hi2⟩ := info_parts int_info
  have kd3 := blk_cell H2.out.dblk 3 _ rfl
  rw [HC.out.ln] at kd3
  have hcl := HW.out.cll
  have hcl2 : cl.length ≤ 12 := by omega
  have h5 := H2.out.own5
  rw [HC.out.ln, HC.out.lx] at h5
  obtain ⟨ao5, hao5⟩ : ∃ x, (R 5).ao = x := ⟨_, rfl⟩
  rw [hao5] at kd3 h5
  have H5 := Lib.hid h5
  clear h5 hcl hao5
  go_upto_if 111 with (fail)
  rename_i hK
  have HK := Lib.hid hK
  clear hK
  go_wp2_with fail
  go_loopg [15, 117] (cl.length - 0) (fun k v15 v117 wq => ∃ (i : Nat) (ca : Option Addr) (cc : Nat) (ns : List Nat) (m : Nat), k = cl.length - i ∧ v117 = .int .i64 (i : Int) ∧ i ≤ cl.length ∧ v15 = .slice ca m cc ∧ Hid (ns.length = m) ∧ m ≤ i ∧ Hid (Below w2.heap.size w2 wq) ∧ Hid (wq.ownsRow w2.heap.size 3 1 (.slice ca m cc) m (ints ns)) ∧ Hid (∀ x, x ∈ ns → x ∈ cl ∧ x ≤ 9 ∧ 1 ≤ x))
  case atStart => exact ⟨0, none, 0, [], 0, rfl, rfl, by omega, rfl, Lib.hid rfl, by omega, Lib.hid (Below.refl _ _), Lib.hid ⟨rfl, .inl ⟨rfl, rfl⟩⟩, Lib.hid (fun x hx => by cases hx)⟩
  case round =>
    obtain ⟨i, ca, cc, ns, m, rfl, rfl, hic, rfl, HNS, hmi, HBQ, HOQ, HALL⟩ := hrel
    by_cases hlt : i < cl.length
    · obtain ⟨x, hx⟩ : ∃ x, cl[i]? = some x := ⟨cl[i], List.getElem?_eq_getElem hlt⟩
      have hxm : x ∈ cl := List.mem_of_getElem? hx
      have hx1 := (HW.out.clo x hxm).2
      obtain ⟨g5, rfl⟩ := row_some H5.out (by omega)
      have kx : wr.cell? ⟨g5, i, none⟩ = some (.int .i64 (x : Int)) := by
        have h5 := H5.out
        have h6 : w2.cell? ⟨g5, i, none⟩ = some (.int .i64 (x : Int)) := by
          refine (h5.cellAt i (by omega)).trans ?_
          rw [ints_get, hx]; rfl
        exact (HBQ.out.cell (lt_of_cell h6)).trans h6
      have HXM := Lib.hid hxm
      have hii1 : (i : Int) < (cl.length : Int) := by omega
      have tli : decide ((i : Int) < (cl.length : Int)) = true := decide_eq_true hii1
      clear hx hxm
      by_cases h9 : x ≤ 9
      · have t9 : decide ((x : Int) ≤ 9) = true := decide_eq_true (by omega)
        have t9n : decide (x ≤ 9) = true := decide_eq_true h9
        have hbs := HBQ.out.size
        go_wp2_with (at_builtin; go_loud (refine wpList_push _ rfl (.tmp 123) (.tmp 125) 37 rfl w2.heap.size 3 ii (.int .i64 0) 1 8 Tryf.underlying37 hii hi0 hi1 hi2 rfl (by decide) _ _ _ _ rfl (HOQ.out.alloc _) ⟨wr.heap.size, 0, none⟩ 1 1 [.int .i64 (x : Int)] rfl rfl (news_any (by simp)) (by simp [Value.oneCell']) (by decide) (by unfold maxLen; omega) (by omega) (by simp; omega) ?_; intro g1 c1 w8 hown hgrow hwhere; have HO := Lib.hid hown; have HGw := Lib.hid hgrow; clear hown hgrow hwhere))
        have HB8 := Lib.hid (below_grown (HBQ.out.alloc HBQ.out.size (.cells #[.int .i64 (x : Int)] 3)) (Nat.le_refl _) HGw.out (fun g e => (owns_lt HOQ.out g e).1))
        have HO8 : Hid (w8.ownsRow w2.heap.size 3 1 (.slice (some ⟨g1, 0, none⟩) (m + 1) c1) (m + 1) (ints (ns ++ [x]))) := Lib.hid (by rw [ints_app]; exact HO.out)
        go_roundg (cl.length - (i + 1))
        case measure => omega
        case rel => exact ⟨i + 1, _, _, ns ++ [x], m + 1, rfl, rfl, by omega, rfl, Lib.hid (by rw [List.length_append, HNS.out]; rfl), by omega, HB8, HO8, Lib.hid (fun y hy => by
          simp only [List.mem_append, List.mem_singleton] at hy
          rcases hy with hy | rfl
          · exact HALL.out y hy
          · exact ⟨HXM.out, h9, hx1⟩)⟩
      · have t9 : decide ((x : Int) ≤ 9) = false := decide_eq_false (by omega)
        have t9n : decide (x ≤ 9) = false := decide_eq_false h9
        go_wp2_with fail
        go_roundg (cl.length - (i + 1))
        case measure => omega
        case rel => exact ⟨i + 1, _, _, ns, m, rfl, rfl, by omega, rfl, HNS, by omega, HBQ, HOQ, HALL⟩
    · obtain rfl : i = cl.length := by omega
      have H3 := Lib.hid (H2.out.below HBQ.out)
      by_cases hm0 : m = 0
      · have tm : ((m : Int) == 0) = true := by rw [beq_iff_eq]; omega
        subst hm0
        go_wp2_with fail
        refine HK.out _ _ ?_
        refine wp_same (c' := decTail) (by kernel_rfl) ?_
        refine sw_cls_at (o := 0) H3.out HC.out HW.out hit hob (fun a' w' h1 h2 => HKK.out a' w' h1 h2) (.slice ca 0 cc) (by omega) harg ?_ ?_ ?_ ?_ ?_ ?_ ?_ ?_ ?_ ?_ ?_
        all_goals first | rfl | exact dint_is (by omega)
      · obtain ⟨gc, rfl⟩ := row_some HOQ.out (by omega)
        have tm : ((m : Int) == 0) = false := by rw [beq_eq_false_iff_ne]; omega
        have hgc : blkOf (R 4).ao ≠ some gc := fun e => by
          have h1 := (owns_lt H2.out.own4 gc e).2
          have h2 := (owns_lt HOQ.out gc rfl).1
          omega
        have HCD : Hid (∀ j, j < m → ∃ n : Nat, wr.cell? ⟨gc, j, none⟩ = some (.int .i64 (n : Int)) ∧ n ∈ cl ∧ n ≤ 9 ∧ 1 ≤ n) := Lib.hid (fun j hj => by
          have hjl : j < ns.length := by rw [HNS.out]; exact hj
          refine ⟨ns[j], (HOQ.out.cellAt j (by omega)).trans ?_, HALL.out _ (List.getElem_mem hjl)⟩
          rw [ints_get, List.getElem?_eq_getElem hjl]; rfl)
        have HGC := Lib.hid hgc
        clear hgc
        go_wp2_with fail
        refine HK.out _ _ ?_
        refine wp_same (c' := decTail) (by kernel_rfl) ?_
        refine sw_ref_at (capc := cc) H3.out HC.out HW.out hit hob (fun a' w' h1 h2 => HKK.out a' w' h1 h2) harg (by omega) (by omega) HGC.out HCD.out ?_ ?_ ?_ ?_ ?_ ?_ ?_ ?_ ?_ ?_ ?_
        all_goals first | rfl | exact dint_is (by omega)
theorem db_ref_at {w0 w2 : World} {B r p d nc ub ob it o arg : Nat} {an tl : Bool} {R : Fin 6 → Rw} {ts : List Tk} {txt : List Int} {ps : List Bool} {op ct cl : List Nat} {Q : Exit → Act → World → Prop}
    (hS : DecS w0 w2 B r p d an tl nc R ts) (hC : Cont R txt ps op ct cl) (hW : DWf an nc ts txt ps op ct cl ub it) (hit : it < 4096) (hob : ob ≤ 2) (harg : arg ≤ 31)
    (hN : ∀ a' w', DFr r p d a' → DRel w0 B r p d an tl w' (it + 1) a' → Q .normal a' w') (ho3 : o = 6) {a : Act} (hdf : a.defers = []) (hsz : a.tmps.size = 408) (h5 : a.tmps[5]? = some (.pointer (some ⟨r, 0, none⟩))) (h6 : a.tmps[6]? = some (.pointer (some ⟨p, 0, none⟩))) (h7 : a.tmps[7]? = some (.pointer (some ⟨d, 0, none⟩))) (h9 : a.tmps[9]? = some (.int .i64 (ub : Int))) (h10 : a.tmps[10]? = some (.int .i64 (ob : Int))) (h11 : a.tmps[11]? = some (.int .i64 ((it + 1 : Nat) : Int))) (h13 : a.tmps[13]? = some (.int .i64 (o : Int))) (h14 : a.tmps[14]? = some (.int .i64 (arg : Int))) : decMid.wp Tryf.prog Q a w2 := by
  obtain ⟨f, hfr⟩ := dframe_litM a.tmps hsz h5 h6 h7 h9 h10 h11 h13 h14
  rw [dact_is hdf, hfr]
  exact db_ref hS hC hW hit hob harg hN ho3 f


def DQ (w0 : World) (B r p d : Nat) (an tl : Bool) : Exit → Act → World → Prop
  | .exit id, a, w' => id = 0 ∧ DFr r p d a ∧ ∃ it, DRel w0 B r p d an tl w' it a
  | _, _, _ => False
set_option maxRecDepth 1000000 in
set_option maxHeartbeats 8000000 in
theorem dec_head {w0 wr : World} {B r p d nc ub ob it : Nat} {an tl : Bool} {R : Fin 6 → Rw} {ts : List Tk} {txt : List Int} {ps : List Bool} {op ct cl : List Nat} {K : Act → World → Prop}
    (hS : DecS w0 wr B r p d an tl nc R ts) (hC : Cont R txt ps op ct cl) (hW : DWf an nc ts txt ps op ct cl ub it) (hob : ob ≤ 2) (hit4 : it ≤ 4096)
    (hK : ∀ a' w', it < 4096 → DFr r p d a' → DRel w0 B r p d an tl w' (it + 1) a' → K a' w') (f : Nat → Value) :
    decBody.wp Tryf.prog (Exit.then K (DQ w0 B r p d an tl)) { tmps := #[f 0, f 1, f 2, f 3, f 4, .pointer (some ⟨r, 0, none⟩), .pointer (some ⟨p, 0, none⟩), .pointer (some ⟨d, 0, none⟩), f 8, .int .i64 (ub : Int), .int .i64 (ob : Int), .int .i64 (it : Int), f 12, f 13, f 14, f 15, f 16, f 17, f 18, f 19, f 20, f 21, f 22, f 23, f 24, f 25, f 26, f 27, f 28, f 29, f 30, f 31, f 32, f 33, f 34, f 35, f 36, f 37, f 38, f 39, f 40, f 41, f 42, f 43, f 44, f 45, f 46, f 47, f 48, f 49, f 50, f 51, f 52, f 53, f 54, f 55, f 56, f 57, f 58, f 59, f 60, f 61, f 62, f 63, f 64, f 65, f 66, f 67, f 68, f 69, f 70, f 71, f 72, f 73, f 74, f 75, f 76, f 77, f 78, f 79, f 80, f 81, f 82, f 83, f 84, f 85, f 86, f 87, f 88, f 89, f 90, f 91, f 92, f 93, f 94, f 95, f 96, f 97, f 98, f 99, f 100, f 101, f 102, f 103, f 104, f 105, f 106, f 107, f 108, f 109, f 110, f 111, f 112, f 113, f 114, f 115, f 116, f 117, f 118, f 119, f 120, f 121, f 122, f 123, f 124, f 125, f 126, f 127, f 128, f 129, f 130, f 131, f 132, f 133, f 134, f 135, f 136, f 137, f 138, f 139, f 140, f 141, f 142, f 143, f 144, f 145, f 146, f 147, f 148, f 149, f 150, f 151, f 152, f 153, f 154, f 155, f 156, f 157, f 158, f 159, f 160, f 161, f 162, f 163, f 164, f 165, f 166, f 167, f 168, f 169, f 170, f 171, f 172, f 173, f 174, f 175, f 176, f 177, f 178, f 179, f 180, f 181, f 182, f 183, f 184, f 185, f 186, f 187, f 188, f 189, f 190, f 191, f 192, f 193, f 194, f 195, f 196, f 197, f 198, f 199, f 200, f 201, f 202, f 203, f 204, f 205, f 206, f 207, f 208, f 209, f 210, f 211, f 212, f 213, f 214, f 215, f 216, f 217, f 218, f 219, f 220, f 221, f 222, f 223, f 224, f 225, f 226, f 227, f 228, f 229, f 230, f 231, f 232, f 233, f 234, f 235, f 236, f 237, f 238, f 239, f 240, f 241, f 242, f 243, f 244, f 245, f 246, f 247, f 248, f 249, f 250, f 251, f 252, f 253, f 254, f 255, f 256, f 257, f 258, f 259, f 260, f 261, f 262, f 263, f 264, f 265, f 266, f 267, f 268, f 269, f 270, f 271, f 272, f 273, f 274, f 275, f 276, f 277, f 278, f 279, f 280, f 281, f 282, f 283, f 284, f 285, f 286, f 287, f 288, f 289, f 290, f 291, f 292, f 293, f 294, f 295, f 296, f 297, f 298, f 299, f 300, f 301, f 302, f 303, f 304, f 305, f 306, f 307, f 308, f 309, f 310, f 311, f 312, f 313, f 314, f 315, f 316, f 317, f 318, f 319, f 320, f 321, f 322, f 323, f 324, f 325, f 326, f 327, f 328, f 329, f 330, f 331, f 332, f 333, f 334, f 335, f 336, f 337, f 338, f 339, f 340, f 341, f 342, f 343, f 344, f 345, f 346, f 347, f 348, f 349, f 350, f 351, f 352, f 353, f 354, f 355, f 356, f 357, f 358, f 359, f 360, f 361, f 362, f 363, f 364, f 365, f 366, f 367, f 368, f 369, f 370, f 371, f 372, f 373, f 374, f 375, f 376, f 377, f 378, f 379, f 380, f 381, f 382, f 383, f 384, f 385, f 386, f 387, f 388, f 389, f 390, f 391, f 392, f 393, f 394, f 395, f 396, f 397, f 398, f 399, f 400, f 401, f 402, f 403, f 404, f 405, f 406, f 407], defers := [] } wr := by
  have HKK := Lib.hid hK
  have HW := Lib.hid hW
  have H := Lib.hid hS
  have HC := Lib.hid hC
  clear hK hW hS hC
  conv => arg 2; whnf
  by_cases hit : it < 4096
  · have tit : decide ((it : Int) < 4096) = true := decide_eq_true (by omega)
    have titn : decide (it < 4096) = true := decide_eq_true hit
    go_upto_region 13 with (go_at_call 12; refine (more_any H.out.rd).mono ?_; rintro e w1 ⟨bb, q, rfl, hw1⟩)
    rotate_left
    · exact ⟨rfl, ⟨rfl, rfl, rfl, rfl, rfl⟩, it, drel_mk rfl rfl rfl (H.out.drewN q) HC.out HW.out (by omega) hob⟩
    have H1 := Lib.hid (H.out.drewN q)
    generalize wr.drewN q = w1 at *
    clear H tit titn
    go_upto_region 14 with (go_at_call 11; refine (next_rd H1.out.rd).mono ?_; rintro e w2 ⟨v, hv, rfl, hrd, hg⟩)
    have H2 := Lib.hid (H1.out.call hg hrd)
    clear hg hrd H1
    obtain ⟨o, ho⟩ : ∃ o, v % 8 = o := ⟨_, rfl⟩
    obtain ⟨arg, hag⟩ : ∃ arg, v / 8 = arg := ⟨_, rfl⟩
    have htm : Int.tmod (v : Int) 8 = (o : Int) := by rw [Int.tmod_eq_emod_of_nonneg (by omega), ← ho]; rfl
    have htm2 : (v : Int) % 8 = (o : Int) := by omega
    have htd : Int.tdiv (v : Int) 8 = (arg : Int) := by rw [Int.tdiv_eq_ediv_of_nonneg (by omega), ← hag]; rfl
    have htd2 : (v : Int) / 8 = (arg : Int) := by omega
    have harg : arg ≤ 31 := by omega
    have ho8 : (o = 0 ∨ o = 1 ∨ o = 2) ∨ o = 3 ∨ o = 4 ∨ o = 5 ∨ o = 6 ∨ o = 7 := by omega
    have HO8 := Lib.hid ho8
    clear ho hag ho8
    go_upto_region 16 with (fail)
    rename_i hK2
    have HK := Lib.hid hK2
    clear hK2
    go_wp2_with fail
    refine HK.out _ _ ?_
    refine wp_same (c' := decMid) (by kernel_rfl) ?_
    rcases HO8.out with h | h | h | h | h | h
    · refine db_cls0_at H2.out HC.out HW.out hit hob harg (fun a' w' h1 h2 => HKK.out a' w' hit h1 h2) h ?_ ?_ ?_ ?_ ?_ ?_ ?_ ?_ ?_ ?_
      all_goals first | rfl | exact dint_is (by omega)
    · refine db_opn_at H2.out HC.out HW.out hit hob harg (fun a' w' h1 h2 => HKK.out a' w' hit h1 h2) h ?_ ?_ ?_ ?_ ?_ ?_ ?_ ?_ ?_ ?_
      all_goals first | rfl | exact dint_is (by omega)
    · refine db_clo_at H2.out HC.out HW.out hit hob harg (fun a' w' h1 h2 => HKK.out a' w' hit h1 h2) h ?_ ?_ ?_ ?_ ?_ ?_ ?_ ?_ ?_ ?_
      all_goals first | rfl | exact dint_is (by omega)
    · refine db_pos_at H2.out HC.out HW.out hit hob harg (fun a' w' h1 h2 => HKK.out a' w' hit h1 h2) h ?_ ?_ ?_ ?_ ?_ ?_ ?_ ?_ ?_ ?_
      all_goals first | rfl | exact dint_is (by omega)
    · refine db_ref_at H2.out HC.out HW.out hit hob harg (fun a' w' h1 h2 => HKK.out a' w' hit h1 h2) h ?_ ?_ ?_ ?_ ?_ ?_ ?_ ?_ ?_ ?_
      all_goals first | rfl | exact dint_is (by omega)
    · refine db_brc_at H2.out HC.out HW.out hit hob harg (fun a' w' h1 h2 => HKK.out a' w' hit h1 h2) h ?_ ?_ ?_ ?_ ?_ ?_ ?_ ?_ ?_ ?_
      all_goals first | rfl | exact dint_is (by omega)
  · have tit : decide ((it : Int) < 4096) = false := decide_eq_false (by omega)
    have titn : decide (it < 4096) = false := decide_eq_false hit
    go_wp2_with (go_at_call 12; refine (more_any H.out.rd).mono ?_; rintro e w1 ⟨bb, q, rfl, hw1⟩)
    all_goals exact ⟨rfl, ⟨rfl, rfl, rfl, rfl, rfl⟩, it, drel_mk rfl rfl rfl (H.out.drewN q) HC.out HW.out (by omega) hob⟩
theorem dec_round {w0 wr : World} {B r p d it : Nat} {an tl : Bool} {K : Act → World → Prop} {a : Act} (hf : DFr r p d a) (hrel : DRel w0 B r p d an tl wr it a)
    (hK : ∀ a' w', it < 4096 → DFr r p d a' → DRel w0 B r p d an tl w' (it + 1) a' → K a' w') : decBody.wp Tryf.prog (Exit.then K (DQ w0 B r p d an tl)) a wr := by
  obtain ⟨nc, R, ts, txt, ps, op, ct, cl, ub, ob, h9, h10, h11, hS, hC, hW, hi, ho⟩ := hrel
  obtain ⟨f, hfr⟩ := dframe_lit a.tmps hf.sz hf.s5 hf.s6 hf.s7 h9 h10 h11
  rw [dact_is hf.df, hfr]
  exact dec_head hS hC hW ho hi hK f
theorem dec_loop {w0 wr : World} {B r p d it : Nat} {an tl : Bool} {a : Act} (hf : DFr r p d a) (hrel : DRel w0 B r p d an tl wr it a) :
    (Code.loop decBody).wp Tryf.prog (DQ w0 B r p d an tl) a wr := by
  refine wp_loop_ghost (fun n a' w' => ∃ it', n = 4096 - it' ∧ DFr r p d a' ∧ DRel w0 B r p d an tl w' it' a') (4096 - it) ⟨it, rfl, hf, hrel⟩ ?_
  rintro n a' w' ⟨it', rfl, hf', hrel'⟩
  refine dec_round hf' hrel' ?_
  intro a2 w2 hlt hf2 hrel2
  exact ⟨_, by omega, it' + 1, rfl, hf2, hrel2⟩


section
variable {w0 w w' : World} {B r p d nc : Nat} {an tl : Bool} {R : Fin 6 → Rw} {ts : List Tk}
theorem DecS.flag (h : DecS w0 w B r p d an tl nc R ts) (k : Nat) (v : Value) (an' tl' : Bool) (hp : (w.setCell ⟨p, k, none⟩ v).heap[p]? = some (.cells #[.slice (R 0).ao (R 0).n (R 0).cap, .slice (R 1).ao (R 1).n (R 1).cap, .bool an', .bool tl', .int .i64 (nc : Int), .slice (R 2).ao (R 2).n (R 2).cap] 35 (0, 0))) :
    DecS w0 (w.setCell ⟨p, k, none⟩ v) B r p d an' tl' nc R ts := by
  obtain ⟨cs, hrb⟩ := h.rblk
  have key : ∀ (g : Nat) (c : Array Value) (T : TypeId) (q : Nat × Nat), w.heap[g]? = some (Obj.cells c T q) → T ≠ 35 → (w.setCell ⟨p, k, none⟩ v).heap[g]? = w.heap[g]? := fun g c T q hgc hT =>
    Below.heap_setCell w ⟨p, k, none⟩ _ g (type_ne hgc h.pblk hT)
  have hb := h.bel.setCell (p := ⟨p, k, none⟩) h.hp v
  refine ⟨hp, (key d _ _ _ h.dblk (by decide)).trans h.dblk, fun i => owns_kept (h.own i) (fun g o hgg h1 => ?_), h.dis, h.hp, h.hd, h.toks.kept (fun g cs q _ h1 => (key g _ _ _ h1 (by decide)).trans h1), h.rd.kept (key r _ _ _ hrb (by decide)) (fun k hk => by rw [hb.block k hk, h.bel.block k hk]), hb, h.hB⟩
  obtain ⟨c, hc⟩ := own_type (h.own i) g hgg
  exact (key g _ _ _ hc (rTy_pat i).1).trans h1
theorem DecS.setAn (h : DecS w0 w B r p d an tl nc R ts) (b : Bool) : DecS w0 (w.setCell ⟨p, 2, none⟩ (.bool b)) B r p d b tl nc R ts := h.flag 2 _ b tl (blk_set h.pblk 2 _)
theorem DecS.setTl (h : DecS w0 w B r p d an tl nc R ts) (b : Bool) : DecS w0 (w.setCell ⟨p, 3, none⟩ (.bool b)) B r p d an b nc R ts := h.flag 3 _ an b (blk_set h.pblk 3 _)
end
def rwNil : Rw := ⟨none, 0, 0, []⟩
/-- The rows as they are made. -/
def rows0 (g : Nat) : Fin 6 → Rw
  | 2 => ⟨some ⟨g, 0, none⟩, 1, 1, [.bool false]⟩
  | _ => rwNil
theorem dec_start {w : World} {a : Option Addr} {cap : Nat} {zs : List Int} (hrow : RowInt .u8 w a zs) (hb : 0 < zs.length → ∀ x, a = some x → x.block < w.heap.size) (hby : ∀ z, z ∈ zs → 0 ≤ z ∧ z ≤ 255) (hl : zs.length ≤ 1048576) :
    DecS w ((((w.alloc (.cells #[.slice a zs.length cap, .int .i64 0] 50)).alloc (.cells #[.bool false] 4)).alloc (.cells #[.slice none 0 0, .slice none 0 0, .bool false, .bool false, .int .i64 0, .slice (some ⟨w.heap.size + 1, 0, none⟩) 1 1] 35)).alloc (.cells #[.pointer (some ⟨w.heap.size + 1 + 1, 0, none⟩), .slice none 0 0, .slice none 0 0, .slice none 0 0] 53))
      w.heap.size w.heap.size (w.heap.size + 1 + 1) (w.heap.size + 1 + 1 + 1) false false 0 (rows0 (w.heap.size + 1)) [] := by
  have s1 : (w.alloc (.cells #[.slice a zs.length cap, .int .i64 0] 50)).heap.size = w.heap.size + 1 := by simp
  have s2 : ((w.alloc (.cells #[.slice a zs.length cap, .int .i64 0] 50)).alloc (.cells #[.bool false] 4)).heap.size = w.heap.size + 1 + 1 := by simp
  have s3 : (((w.alloc (.cells #[.slice a zs.length cap, .int .i64 0] 50)).alloc (.cells #[.bool false] 4)).alloc (.cells #[.slice none 0 0, .slice none 0 0, .bool false, .bool false, .int .i64 0, .slice (some ⟨w.heap.size + 1, 0, none⟩) 1 1] 35)).heap.size = w.heap.size + 1 + 1 + 1 := by simp
  have bp := blk_new ((w.alloc (.cells #[.slice a zs.length cap, .int .i64 0] 50)).alloc (.cells #[.bool false] 4)) (.cells #[.slice none 0 0, .slice none 0 0, .bool false, .bool false, .int .i64 0, .slice (some ⟨w.heap.size + 1, 0, none⟩) 1 1] 35)
  have bd := blk_new (((w.alloc (.cells #[.slice a zs.length cap, .int .i64 0] 50)).alloc (.cells #[.bool false] 4)).alloc (.cells #[.slice none 0 0, .slice none 0 0, .bool false, .bool false, .int .i64 0, .slice (some ⟨w.heap.size + 1, 0, none⟩) 1 1] 35)) (.cells #[.pointer (some ⟨w.heap.size + 1 + 1, 0, none⟩), .slice none 0 0, .slice none 0 0, .slice none 0 0] 53)
  have bo := World.ownsRow_lit (e := 4) (size := 1) (w.alloc (.cells #[.slice a zs.length cap, .int .i64 0] 50)) #[.bool false] (base := w.heap.size) 1 (by rw [s1]; omega) (by unfold maxLen; omega) rfl
  rw [s2] at bp
  rw [s3] at bd
  rw [s1] at bo
  have bel : Below w.heap.size w ((((w.alloc (.cells #[.slice a zs.length cap, .int .i64 0] 50)).alloc (.cells #[.bool false] 4)).alloc (.cells #[.slice none 0 0, .slice none 0 0, .bool false, .bool false, .int .i64 0, .slice (some ⟨w.heap.size + 1, 0, none⟩) 1 1] 35)).alloc (.cells #[.pointer (some ⟨w.heap.size + 1 + 1, 0, none⟩), .slice none 0 0, .slice none 0 0, .slice none 0 0] 53)) :=
    ((((Below.refl _ _).alloc (Nat.le_refl _) _).alloc (by rw [s1]; omega) _).alloc (by rw [s2]; omega) _).alloc (by rw [s3]; omega) _
  refine ⟨blk_alloc bp _, bd, fun i => ?_, fun i j hij g hg e => ?_, by omega, by omega, .nil, ?_, bel, Nat.le_refl _⟩
  · match i with
    | 0 => exact ⟨rfl, .inl ⟨rfl, rfl⟩⟩
    | 1 => exact ⟨rfl, .inl ⟨rfl, rfl⟩⟩
    | 2 => exact (bo.alloc _).alloc _
    | 3 => exact ⟨rfl, .inl ⟨rfl, rfl⟩⟩
    | 4 => exact ⟨rfl, .inl ⟨rfl, rfl⟩⟩
    | 5 => exact ⟨rfl, .inl ⟨rfl, rfl⟩⟩
  · have h2 : ∀ (k : Fin 6) (x : Nat), blkOf (rows0 (w.heap.size + 1) k).ao = some x → k = 2 := fun k x hk => by
      match k with
      | 2 => rfl
      | 0 => cases hk
      | 1 => cases hk
      | 3 => cases hk
      | 4 => cases hk
      | 5 => cases hk
    exact hij ((h2 i g hg).trans (h2 j g e).symm)
  · refine ⟨a, zs, cap, 0, blk_alloc (blk_alloc (blk_alloc (blk_new _ _) _) _) _, fun h0 => ?_, hb, hby, hl, Nat.le_refl _, Nat.zero_le _⟩
    obtain ⟨sb, so, e, hc⟩ := hrow h0
    exact ⟨sb, so, e, fun j hj => (bel.cell (p := ⟨sb, so + j, none⟩) (show (⟨sb, so + j, none⟩ : Addr).block < w.heap.size from hb h0 ⟨sb, so, none⟩ e)).trans (hc j hj)⟩
theorem cont_start (g : Nat) : Cont (rows0 g) [] [false] [] [] [] := ⟨rfl, rfl, rfl, rfl, rfl, rfl, rfl, rfl, rfl, rfl⟩
/-- What the decoder hands back. -/
structure PatAt (w' : World) (B p : Nat) (an tl : Bool) (nc : Nat) (txt : List Int) (ts : List Tk) (ps : List Bool) (aT aK aP : Option Addr) (cT cK cP : Nat) (ks : List Value) : Prop where
  blk : w'.heap[p]? = some (.cells #[.slice aT txt.length cT, .slice aK ts.length cK, .bool an, .bool tl, .int .i64 (nc : Int), .slice aP ps.length cP] 35 (0, 0))
  ownT : w'.ownsRow B 5 1 (.slice aT txt.length cT) txt.length (u8s txt)
  ownK : w'.ownsRow B 59 8 (.slice aK ts.length cK) ts.length ks
  ownP : w'.ownsRow B 4 1 (.slice aP ps.length cP) ps.length (bools ps)
  toks : TksAt w' B ts ks
  hp : B ≤ p
/-- A pattern as the decoder makes it. -/
structure Wf (wt an tl : Bool) (nc : Nat) (txt : List Int) (ts : List Tk) (ps : List Bool) : Prop where
  tsE : TS 1 (nc + 1) ts
  tx : txt = (if an then [94] else []) ++ txts ts ++ (if tl then [36] else [])
  psE : ps = false :: psOf ts
  nc12 : nc ≤ 12
  refs : RefsOk ts
  ub2 : unb ts ≤ 2
  lts : ts.length ≤ 12288
  ltx : txt.length ≤ 65538
  tlW : tl = true → wt = true
def isLoop : Code → Bool
  | .loop _ => true
  | .block _ c => isLoop c
  | .scope c => isLoop c
  | _ => false
/-- The rest of a code behind its first loop. -/
def afterLoop : Code → Option Code
  | .seq a b => if isLoop a then some b else match afterLoop a with
    | some c => some c
    | none => afterLoop b
  | .block _ c => afterLoop c
  | .scope c => afterLoop c
  | _ => none
noncomputable def decRest : Code := ((Tryf.f5.body.bind afterLoop)).getD .skip
noncomputable def decFrom9 : Code := ((Tryf.f5.body.bind (tailGrp 9))).getD .skip
noncomputable def decFrom4 : Code := ((Tryf.f5.body.bind (tailGrp 4))).getD .skip
set_option maxRecDepth 1000000 in
theorem dframe_lit1 (xs : Array Value) (h : xs.size = 408) {v5 v6 v7 : Value} (h5 : xs[5]? = some v5) (h6 : xs[6]? = some v6) (h7 : xs[7]? = some v7) : ∃ f : Nat → Value, xs = #[f 0, f 1, f 2, f 3, f 4, v5, v6, v7, f 8, f 9, f 10, f 11, f 12, f 13, f 14, f 15, f 16, f 17, f 18, f 19, f 20, f 21, f 22, f 23, f 24, f 25, f 26, f 27, f 28, f 29, f 30, f 31, f 32, f 33, f 34, f 35, f 36, f 37, f 38, f 39, f 40, f 41, f 42, f 43, f 44, f 45, f 46, f 47, f 48, f 49, f 50, f 51, f 52, f 53, f 54, f 55, f 56, f 57, f 58, f 59, f 60, f 61, f 62, f 63, f 64, f 65, f 66, f 67, f 68, f 69, f 70, f 71, f 72, f 73, f 74, f 75, f 76, f 77, f 78, f 79, f 80, f 81, f 82, f 83, f 84, f 85, f 86, f 87, f 88, f 89, f 90, f 91, f 92, f 93, f 94, f 95, f 96, f 97, f 98, f 99, f 100, f 101, f 102, f 103, f 104, f 105, f 106, f 107, f 108, f 109, f 110, f 111, f 112, f 113, f 114, f 115, f 116, f 117, f 118, f 119, f 120, f 121, f 122, f 123, f 124, f 125, f 126, f 127, f 128, f 129, f 130, f 131, f 132, f 133, f 134, f 135, f 136, f 137, f 138, f 139, f 140, f 141, f 142, f 143, f 144, f 145, f 146, f 147, f 148, f 149, f 150, f 151, f 152, f 153, f 154, f 155, f 156, f 157, f 158, f 159, f 160, f 161, f 162, f 163, f 164, f 165, f 166, f 167, f 168, f 169, f 170, f 171, f 172, f 173, f 174, f 175, f 176, f 177, f 178, f 179, f 180, f 181, f 182, f 183, f 184, f 185, f 186, f 187, f 188, f 189, f 190, f 191, f 192, f 193, f 194, f 195, f 196, f 197, f 198, f 199, f 200, f 201, f 202, f 203, f 204, f 205, f 206, f 207, f 208, f 209, f 210, f 211, f 212, f 213, f 214, f 215, f 216, f 217, f 218, f 219, f 220, f 221, f 222, f 223, f 224, f 225, f 226, f 227, f 228, f 229, f 230, f 231, f 232, f 233, f 234, f 235, f 236, f 237, f 238, f 239, f 240, f 241, f 242, f 243, f 244, f 245, f 246, f 247, f 248, f 249, f 250, f 251, f 252, f 253, f 254, f 255, f 256, f 257, f 258, f 259, f 260, f 261, f 262, f 263, f 264, f 265, f 266, f 267, f 268, f 269, f 270, f 271, f 272, f 273, f 274, f 275, f 276, f 277, f 278, f 279, f 280, f 281, f 282, f 283, f 284, f 285, f 286, f 287, f 288, f 289, f 290, f 291, f 292, f 293, f 294, f 295, f 296, f 297, f 298, f 299, f 300, f 301, f 302, f 303, f 304, f 305, f 306, f 307, f 308, f 309, f 310, f 311, f 312, f 313, f 314, f 315, f 316, f 317, f 318, f 319, f 320, f 321, f 322, f 323, f 324, f 325, f 326, f 327, f 328, f 329, f 330, f 331, f 332, f 333, f 334, f 335, f 336, f 337, f 338, f 339, f 340, f 341, f 342, f 343, f 344, f 345, f 346, f 347, f 348, f 349, f 350, f 351, f 352, f 353, f 354, f 355, f 356, f 357, f 358, f 359, f 360, f 361, f 362, f 363, f 364, f 365, f 366, f 367, f 368, f 369, f 370, f 371, f 372, f 373, f 374, f 375, f 376, f 377, f 378, f 379, f 380, f 381, f 382, f 383, f 384, f 385, f 386, f 387, f 388, f 389, f 390, f 391, f 392, f 393, f 394, f 395, f 396, f 397, f 398, f 399, f 400, f 401, f 402, f 403, f 404, f 405, f 406, f 407] := by
  have hf : ∀ k, k < 408 → xs[k]? = some (xs.getD k .nilIface) := fun k hk => by
    rw [Array.getD_eq_getD_getElem?, Array.getElem?_eq_getElem (by omega)]; rfl
  refine ⟨fun k => xs.getD k .nilIface, ?_⟩
  have e := (darr_range xs 408 h _ hf).trans (dlit_range _)
  have e5 : xs.getD 5 .nilIface = v5 := by rw [Array.getD_eq_getD_getElem?, h5]; rfl
  have e6 : xs.getD 6 .nilIface = v6 := by rw [Array.getD_eq_getD_getElem?, h6]; rfl
  have e7 : xs.getD 7 .nilIface = v7 := by rw [Array.getD_eq_getD_getElem?, h7]; rfl
  subst e5 e6 e7
  exact e
set_option maxRecDepth 1000000 in
theorem dframe_lit2 (xs : Array Value) (h : xs.size = 408) {v1 v5 v6 v7 : Value} (h1 : xs[1]? = some v1) (h5 : xs[5]? = some v5) (h6 : xs[6]? = some v6) (h7 : xs[7]? = some v7) : ∃ f : Nat → Value, xs = #[f 0, v1, f 2, f 3, f 4, v5, v6, v7, f 8, f 9, f 10, f 11, f 12, f 13, f 14, f 15, f 16, f 17, f 18, f 19, f 20, f 21, f 22, f 23, f 24, f 25, f 26, f 27, f 28, f 29, f 30, f 31, f 32, f 33, f 34, f 35, f 36, f 37, f 38, f 39, f 40, f 41, f 42, f 43, f 44, f 45, f 46, f 47, f 48, f 49, f 50, f 51, f 52, f 53, f 54, f 55, f 56, f 57, f 58, f 59, f 60, f 61, f 62, f 63, f 64, f 65, f 66, f 67, f 68, f 69, f 70, f 71, f 72, f 73, f 74, f 75, f 76, f 77, f 78, f 79, f 80, f 81, f 82, f 83, f 84, f 85, f 86, f 87, f 88, f 89, f 90, f 91, f 92, f 93, f 94, f 95, f 96, f 97, f 98, f 99, f 100, f 101, f 102, f 103, f 104, f 105, f 106, f 107, f 108, f 109, f 110, f 111, f 112, f 113, f 114, f 115, f 116, f 117, f 118, f 119, f 120, f 121, f 122, f 123, f 124, f 125, f 126, f 127, f 128, f 129, f 130, f 131, f 132, f 133, f 134, f 135, f 136, f 137, f 138, f 139, f 140, f 141, f 142, f 143, f 144, f 145, f 146, f 147, f 148, f 149, f 150, f 151, f 152, f 153, f 154, f 155, f 156, f 157, f 158, f 159, f 160, f 161, f 162, f 163, f 164, f 165, f 166, f 167, f 168, f 169, f 170, f 171, f 172, f 173, f 174, f 175, f 176, f 177, f 178, f 179, f 180, f 181, f 182, f 183, f 184, f 185, f 186, f 187, f 188, f 189, f 190, f 191, f 192, f 193, f 194, f 195, f 196, f 197, f 198, f 199, f 200, f 201, f 202, f 203, f 204, f 205, f 206, f 207, f 208, f 209, f 210, f 211, f 212, f 213, f 214, f 215, f 216, f 217, f 218, f 219, f 220, f 221, f 222, f 223, f 224, f 225, f 226, f 227, f 228, f 229, f 230, f 231, f 232, f 233, f 234, f 235, f 236, f 237, f 238, f 239, f 240, f 241, f 242, f 243, f 244, f 245, f 246, f 247, f 248, f 249, f 250, f 251, f 252, f 253, f 254, f 255, f 256, f 257, f 258, f 259, f 260, f 261, f 262, f 263, f 264, f 265, f 266, f 267, f 268, f 269, f 270, f 271, f 272, f 273, f 274, f 275, f 276, f 277, f 278, f 279, f 280, f 281, f 282, f 283, f 284, f 285, f 286, f 287, f 288, f 289, f 290, f 291, f 292, f 293, f 294, f 295, f 296, f 297, f 298, f 299, f 300, f 301, f 302, f 303, f 304, f 305, f 306, f 307, f 308, f 309, f 310, f 311, f 312, f 313, f 314, f 315, f 316, f 317, f 318, f 319, f 320, f 321, f 322, f 323, f 324, f 325, f 326, f 327, f 328, f 329, f 330, f 331, f 332, f 333, f 334, f 335, f 336, f 337, f 338, f 339, f 340, f 341, f 342, f 343, f 344, f 345, f 346, f 347, f 348, f 349, f 350, f 351, f 352, f 353, f 354, f 355, f 356, f 357, f 358, f 359, f 360, f 361, f 362, f 363, f 364, f 365, f 366, f 367, f 368, f 369, f 370, f 371, f 372, f 373, f 374, f 375, f 376, f 377, f 378, f 379, f 380, f 381, f 382, f 383, f 384, f 385, f 386, f 387, f 388, f 389, f 390, f 391, f 392, f 393, f 394, f 395, f 396, f 397, f 398, f 399, f 400, f 401, f 402, f 403, f 404, f 405, f 406, f 407] := by
  have hf : ∀ k, k < 408 → xs[k]? = some (xs.getD k .nilIface) := fun k hk => by
    rw [Array.getD_eq_getD_getElem?, Array.getElem?_eq_getElem (by omega)]; rfl
  refine ⟨fun k => xs.getD k .nilIface, ?_⟩
  have e := (darr_range xs 408 h _ hf).trans (dlit_range _)
  have e1 : xs.getD 1 .nilIface = v1 := by rw [Array.getD_eq_getD_getElem?, h1]; rfl
  have e5 : xs.getD 5 .nilIface = v5 := by rw [Array.getD_eq_getD_getElem?, h5]; rfl
  have e6 : xs.getD 6 .nilIface = v6 := by rw [Array.getD_eq_getD_getElem?, h6]; rfl
  have e7 : xs.getD 7 .nilIface = v7 := by rw [Array.getD_eq_getD_getElem?, h7]; rfl
  subst e1 e5 e6 e7
  exact e
/-- The decoder's last state. -/
def DFin (w0 w' : World) (B p : Nat) (wt : Bool) : Prop :=
  ∃ (an tl : Bool) (nc : Nat) (txt : List Int) (ts : List Tk) (ps : List Bool) (aT aK aP : Option Addr) (cT cK cP : Nat) (ks : List Value), PatAt w' B p an tl nc txt ts ps aT aK aP cT cK cP ks ∧ Wf wt an tl nc txt ts ps ∧ Below B w0 w'
theorem dfin_mk {w0 w' : World} {B r p d nc ub it : Nat} {an tl wt : Bool} {R : Fin 6 → Rw} {ts : List Tk} {txt txt' : List Int} {ps : List Bool} {ct cl : List Nat} (hS : DecS w0 w' B r p d an tl nc R ts) (hC : Cont R txt' ps [] ct cl) (hW : DWf an nc ts txt ps [] ct cl ub it) (hi : it ≤ 4096) (ht : txt' = txt ++ (if tl then [36] else [])) (htl : tl = true → wt = true) : DFin w0 w' B p wt := by
  have h0 := hS.own0
  have h1 := hS.own1
  have h2 := hS.own2
  rw [hC.tn, hC.tx] at h0
  rw [hS.tn] at h1
  rw [hC.pn, hC.px] at h2
  have hb := hS.pblk
  rw [hC.tn, hS.tn, hC.pn] at hb
  have hlt := hW.lts
  have hlx := hW.ltx
  refine ⟨an, tl, nc, txt', ts, ps, _, _, _, _, _, _, _, ⟨hb, h0, h1, h2, hS.toks, hS.hp⟩, ⟨?_, ?_, hW.psE, hW.nc12, hW.refs, by rw [← hW.ubE]; exact hW.ub2, by simp at hlt; omega, ?_, htl⟩, hS.bel⟩
  · have key : ∀ (k : Nat) (op : List Nat), op = [] → DS k ts op ct → TS 1 k ts := fun k op ho h => by
      cases h with
      | base h => exact h
      | opn _ _ _ _ => simp at ho
    exact key _ _ rfl hW.ds
  · rw [ht, hW.tx]
  · rw [ht, List.length_append]; simp at hlx; split <;> simp <;> omega
set_option maxRecDepth 1000000 in
set_option maxHeartbeats 8000000 in
theorem dec_rest {w0 wr : World} {B r p d nc ub it : Nat} {an tl wt : Bool} {R : Fin 6 → Rw} {ts : List Tk} {txt : List Int} {ps : List Bool} {op ct cl : List Nat} {Q : Exit → Act → World → Prop}
    (hS : DecS w0 wr B r p d an tl nc R ts) (hC : Cont R txt ps op ct cl) (hW : DWf an nc ts txt ps op ct cl ub it) (hit : it ≤ 4096) (htl : tl = true → wt = true)
    (hN : ∀ a' w', a'.defers = [] → a'.tmps[4]? = some (.pointer (some ⟨p, 0, none⟩)) → DFin w0 w' B p wt → Q .ret a' w') (f : Nat → Value) :
    decRest.wp Tryf.prog Q { tmps := #[f 0, f 1, f 2, f 3, f 4, .pointer (some ⟨r, 0, none⟩), .pointer (some ⟨p, 0, none⟩), .pointer (some ⟨d, 0, none⟩), f 8, f 9, f 10, f 11, f 12, f 13, f 14, f 15, f 16, f 17, f 18, f 19, f 20, f 21, f 22, f 23, f 24, f 25, f 26, f 27, f 28, f 29, f 30, f 31, f 32, f 33, f 34, f 35, f 36, f 37, f 38, f 39, f 40, f 41, f 42, f 43, f 44, f 45, f 46, f 47, f 48, f 49, f 50, f 51, f 52, f 53, f 54, f 55, f 56, f 57, f 58, f 59, f 60, f 61, f 62, f 63, f 64, f 65, f 66, f 67, f 68, f 69, f 70, f 71, f 72, f 73, f 74, f 75, f 76, f 77, f 78, f 79, f 80, f 81, f 82, f 83, f 84, f 85, f 86, f 87, f 88, f 89, f 90, f 91, f 92, f 93, f 94, f 95, f 96, f 97, f 98, f 99, f 100, f 101, f 102, f 103, f 104, f 105, f 106, f 107, f 108, f 109, f 110, f 111, f 112, f 113, f 114, f 115, f 116, f 117, f 118, f 119, f 120, f 121, f 122, f 123, f 124, f 125, f 126, f 127, f 128, f 129, f 130, f 131, f 132, f 133, f 134, f 135, f 136, f 137, f 138, f 139, f 140, f 141, f 142, f 143, f 144, f 145, f 146, f 147, f 148, f 149, f 150, f 151, f 152, f 153, f 154, f 155, f 156, f 157, f 158, f 159, f 160, f 161, f 162, f 163, f 164, f 165, f 166, f 167, f 168, f 169, f 170, f 171, f 172, f 173, f 174, f 175, f 176, f 177, f 178, f 179, f 180, f 181, f 182, f 183, f 184, f 185, f 186, f 187, f 188, f 189, f 190, f 191, f 192, f 193, f 194, f 195, f 196, f 197, f 198, f 199, f 200, f 201, f 202, f 203, f 204, f 205, f 206, f 207, f 208, f 209, f 210, f 211, f 212, f 213, f 214, f 215, f 216, f 217, f 218, f 219, f 220, f 221, f 222, f 223, f 224, f 225, f 226, f 227, f 228, f 229, f 230, f 231, f 232, f 233, f 234, f 235, f 236, f 237, f 238, f 239, f 240, f 241, f 242, f 243, f 244, f 245, f 246, f 247, f 248, f 249, f 250, f 251, f 252, f 253, f 254, f 255, f 256, f 257, f 258, f 259, f 260, f 261, f 262, f 263, f 264, f 265, f 266, f 267, f 268, f 269, f 270, f 271, f 272, f 273, f 274, f 275, f 276, f 277, f 278, f 279, f 280, f 281, f 282, f 283, f 284, f 285, f 286, f 287, f 288, f 289, f 290, f 291, f 292, f 293, f 294, f 295, f 296, f 297, f 298, f 299, f 300, f 301, f 302, f 303, f 304, f 305, f 306, f 307, f 308, f 309, f 310, f 311, f 312, f 313, f 314, f 315, f 316, f 317, f 318, f 319, f 320, f 321, f 322, f 323, f 324, f 325, f 326, f 327, f 328, f 329, f 330, f 331, f 332, f 333, f 334, f 335, f 336, f 337, f 338, f 339, f 340, f 341, f 342, f 343, f 344, f 345, f 346, f 347, f 348, f 349, f 350, f 351, f 352, f 353, f 354, f 355, f 356, f 357, f 358, f 359, f 360, f 361, f 362, f 363, f 364, f 365, f 366, f 367, f 368, f 369, f 370, f 371, f 372, f 373, f 374, f 375, f 376, f 377, f 378, f 379, f 380, f 381, f 382, f 383, f 384, f 385, f 386, f 387, f 388, f 389, f 390, f 391, f 392, f 393, f 394, f 395, f 396, f 397, f 398, f 399, f 400, f 401, f 402, f 403, f 404, f 405, f 406, f 407], defers := [] } wr := by
  obtain ⟨iu, hiu, hu0, hu1, hu2⟩ := info_parts u8_info
  have HN := Lib.hid hN
  have HS := Lib.hid hS
  have HC := Lib.hid hC
  have HW := Lib.hid hW
  have HTL := Lib.hid htl
  clear hN hS hC hW htl
  conv => arg 2; whnf
  go_wp2_with fail
  go_loopg [386, 387] op.length (fun k v386 v387 wq => ∃ (R9 : Fin 6 → Rw) (ts9 : List Tk) (txt9 : List Int) (op9 ct9 cl9 : List Nat), k = op9.length ∧ Hid (DecS w0 wq B r p d an tl nc R9 ts9) ∧ Hid (Cont R9 txt9 ps op9 ct9 cl9) ∧ Hid (DWf an nc ts9 txt9 ps op9 ct9 cl9 ub it))
  case atStart => exact ⟨R, ts, txt, op, ct, cl, rfl, HS, HC, HW⟩
  case round =>
    obtain ⟨R9, ts9, txt9, op9, ct9, cl9, rfl, H9, HC9, HW9⟩ := hrel
    have kd1 := blk_cell H9.out.dblk 1 _ rfl
    rw [HC9.out.on] at kd1
    have hop3 := HW9.out.op3
    have hctl := HW9.out.ctl
    have hcll := HW9.out.cll
    have hlt9 := HW9.out.lts
    have hlx9 := HW9.out.ltx
    have hnc := HW9.out.nc12
    rcases List.eq_nil_or_concat op9 with rfl | ⟨op0, n, hop⟩
    · have hct0 : ct9 = [] := by
        have := hctl
        simpa using this
      subst hct0
      have kp3 := blk_cell H9.out.pblk 3 _ rfl
      cases tl with
      | false =>
        go_wp2_with fail
        exact HN.out _ _ rfl rfl (dfin_mk H9.out HC9.out HW9.out hit (by simp) (fun h => by cases h))
      | true =>
        have kp0 := blk_cell H9.out.pblk 0 _ rfl
        have fp0 := blk_free H9.out.pblk 0
        have hn0 : (R9 0).n ≤ 100000 := by rw [HC9.out.tn]; simp at hlx9; omega
        generalize wr = wq at *
        go_wp2_with (at_builtin; go_loud (refine wpList_push _ rfl (.tmp 402) (.tmp 403) 22 rfl B 5 iu (.int .u8 0) 1 1 Tryf.underlying22 hiu hu0 hu1 hu2 rfl (by decide) _ _ _ _ rfl (H9.out.own0.alloc _) ⟨wq.heap.size, 0, none⟩ 1 1 [.int .u8 36] rfl rfl (news_any (by simp)) (by simp [Value.oneCell']) (by decide) (by unfold maxLen; omega) (by omega) (Nat.le_trans H9.out.Bw (by simp)) ?_; intro g1 c1 w8 hown hgrow hwhere; have HO := Lib.hid hown; have HGw := Lib.hid hgrow; have HWh := Lib.hid hwhere; have hk8 := (H9.out.alloc _).pGrown (i := 0) HGw.out; have kc8 := blk_cell hk8 0 _ rfl; have fc8 := blk_free hk8 0; clear hown hgrow hwhere hk8))
        exact HN.out _ _ rfl rfl (dfin_mk ((H9.out.alloc _).push0 HO.out HGw.out HWh.out) (HC9.out.push0 (some ⟨g1, 0, none⟩) c1 1 [36] rfl) HW9.out hit (by simp) (fun _ => HTL.out (by trivial)))
    · rw [List.concat_eq_append] at hop
      rcases List.eq_nil_or_concat ct9 with hct | ⟨ct0, c, hct⟩
      · rw [hct, hop] at hctl; simp at hctl
      · rw [List.concat_eq_append] at hct
        obtain ⟨m, hm⟩ : ∃ m, op9.length = m := ⟨_, rfl⟩
        have hm0 : 0 < m := by rw [← hm, hop]; simp
        have hm3 : m ≤ 3 := by omega
        rw [hm] at kd1
        have tm : decide ((0 : Int) < (m : Int)) = true := decide_eq_true (by omega)
        have tmn : decide (0 < m) = true := decide_eq_true hm0
        have HOP := Lib.hid hop
        have HCT := Lib.hid hct
        have HM := Lib.hid hm
        have hl0 : op0.length + 1 = m := by rw [← hm, hop]; simp
        have hc0 : ct0.length = op0.length := by rw [hop, hct] at hctl; simpa using hctl
        have hcl16 : cl9.length ≤ 16 := by omega
        have htx9 : txt9.length ≤ 4194304 := by omega
        have hts9 : ts9.length ≤ 4194304 := by omega
        clear hop hct hm hctl
        go_wp2_with (go_at_call 14; refine (close_any H9.out (by have h := HC9.out; rw [HOP.out, HCT.out] at h; exact h) (by have := (HW9.out.opn n (by rw [HOP.out]; simp)).2; omega) (by have := HW9.out.cnt c (by rw [HCT.out]; simp); omega) (by omega) hc0 hcl16 htx9 hts9).mono ?_; rintro e w9 ⟨rfl, R8, hd8, hc8⟩)
        have H8 := Lib.hid hd8
        have HC8 := Lib.hid hc8
        have HW8 := Lib.hid (show DWf an nc _ _ ps op0 ct0 (cl9 ++ [n]) ub it from by have h := HW9.out; rw [HOP.out, HCT.out] at h; exact h.closed)
        clear hd8 hc8
        go_roundg op0.length
        case measure => rw [HM.out]; omega
        case rel => exact ⟨R8, _, _, op0, ct0, cl9 ++ [n], rfl, H8, HC8, HW8⟩
theorem dec_rest_at {w0 wr : World} {B r p d nc ub it : Nat} {an tl wt : Bool} {R : Fin 6 → Rw} {ts : List Tk} {txt : List Int} {ps : List Bool} {op ct cl : List Nat} {Q : Exit → Act → World → Prop}
    (hS : DecS w0 wr B r p d an tl nc R ts) (hC : Cont R txt ps op ct cl) (hW : DWf an nc ts txt ps op ct cl ub it) (hit : it ≤ 4096) (htl : tl = true → wt = true)
    (hN : ∀ a' w', a'.defers = [] → a'.tmps[4]? = some (.pointer (some ⟨p, 0, none⟩)) → DFin w0 w' B p wt → Q .ret a' w') {a : Act} (hdf : a.defers = []) (hsz : a.tmps.size = 408) (h5 : a.tmps[5]? = some (.pointer (some ⟨r, 0, none⟩))) (h6 : a.tmps[6]? = some (.pointer (some ⟨p, 0, none⟩))) (h7 : a.tmps[7]? = some (.pointer (some ⟨d, 0, none⟩))) : decRest.wp Tryf.prog Q a wr := by
  obtain ⟨f, hfr⟩ := dframe_lit1 a.tmps hsz h5 h6 h7
  rw [dact_is hdf, hfr]
  exact dec_rest hS hC hW hit htl hN f


set_option maxRecDepth 1000000 in
set_option maxHeartbeats 8000000 in
theorem dec_pre {w0 wr : World} {B r p d : Nat} {wt : Bool} {R0 : Fin 6 → Rw} {Q : Exit → Act → World → Prop} (hS : DecS w0 wr B r p d false false 0 R0 []) (hC : Cont R0 [] [false] [] [] [])
    (hN : ∀ a' w', a'.defers = [] → a'.tmps[4]? = some (.pointer (some ⟨p, 0, none⟩)) → DFin w0 w' B p wt → Q .ret a' w') (f : Nat → Value) :
    decFrom4.wp Tryf.prog Q { tmps := #[f 0, .bool wt, f 2, f 3, f 4, .pointer (some ⟨r, 0, none⟩), .pointer (some ⟨p, 0, none⟩), .pointer (some ⟨d, 0, none⟩), f 8, f 9, f 10, f 11, f 12, f 13, f 14, f 15, f 16, f 17, f 18, f 19, f 20, f 21, f 22, f 23, f 24, f 25, f 26, f 27, f 28, f 29, f 30, f 31, f 32, f 33, f 34, f 35, f 36, f 37, f 38, f 39, f 40, f 41, f 42, f 43, f 44, f 45, f 46, f 47, f 48, f 49, f 50, f 51, f 52, f 53, f 54, f 55, f 56, f 57, f 58, f 59, f 60, f 61, f 62, f 63, f 64, f 65, f 66, f 67, f 68, f 69, f 70, f 71, f 72, f 73, f 74, f 75, f 76, f 77, f 78, f 79, f 80, f 81, f 82, f 83, f 84, f 85, f 86, f 87, f 88, f 89, f 90, f 91, f 92, f 93, f 94, f 95, f 96, f 97, f 98, f 99, f 100, f 101, f 102, f 103, f 104, f 105, f 106, f 107, f 108, f 109, f 110, f 111, f 112, f 113, f 114, f 115, f 116, f 117, f 118, f 119, f 120, f 121, f 122, f 123, f 124, f 125, f 126, f 127, f 128, f 129, f 130, f 131, f 132, f 133, f 134, f 135, f 136, f 137, f 138, f 139, f 140, f 141, f 142, f 143, f 144, f 145, f 146, f 147, f 148, f 149, f 150, f 151, f 152, f 153, f 154, f 155, f 156, f 157, f 158, f 159, f 160, f 161, f 162, f 163, f 164, f 165, f 166, f 167, f 168, f 169, f 170, f 171, f 172, f 173, f 174, f 175, f 176, f 177, f 178, f 179, f 180, f 181, f 182, f 183, f 184, f 185, f 186, f 187, f 188, f 189, f 190, f 191, f 192, f 193, f 194, f 195, f 196, f 197, f 198, f 199, f 200, f 201, f 202, f 203, f 204, f 205, f 206, f 207, f 208, f 209, f 210, f 211, f 212, f 213, f 214, f 215, f 216, f 217, f 218, f 219, f 220, f 221, f 222, f 223, f 224, f 225, f 226, f 227, f 228, f 229, f 230, f 231, f 232, f 233, f 234, f 235, f 236, f 237, f 238, f 239, f 240, f 241, f 242, f 243, f 244, f 245, f 246, f 247, f 248, f 249, f 250, f 251, f 252, f 253, f 254, f 255, f 256, f 257, f 258, f 259, f 260, f 261, f 262, f 263, f 264, f 265, f 266, f 267, f 268, f 269, f 270, f 271, f 272, f 273, f 274, f 275, f 276, f 277, f 278, f 279, f 280, f 281, f 282, f 283, f 284, f 285, f 286, f 287, f 288, f 289, f 290, f 291, f 292, f 293, f 294, f 295, f 296, f 297, f 298, f 299, f 300, f 301, f 302, f 303, f 304, f 305, f 306, f 307, f 308, f 309, f 310, f 311, f 312, f 313, f 314, f 315, f 316, f 317, f 318, f 319, f 320, f 321, f 322, f 323, f 324, f 325, f 326, f 327, f 328, f 329, f 330, f 331, f 332, f 333, f 334, f 335, f 336, f 337, f 338, f 339, f 340, f 341, f 342, f 343, f 344, f 345, f 346, f 347, f 348, f 349, f 350, f 351, f 352, f 353, f 354, f 355, f 356, f 357, f 358, f 359, f 360, f 361, f 362, f 363, f 364, f 365, f 366, f 367, f 368, f 369, f 370, f 371, f 372, f 373, f 374, f 375, f 376, f 377, f 378, f 379, f 380, f 381, f 382, f 383, f 384, f 385, f 386, f 387, f 388, f 389, f 390, f 391, f 392, f 393, f 394, f 395, f 396, f 397, f 398, f 399, f 400, f 401, f 402, f 403, f 404, f 405, f 406, f 407], defers := [] } wr := by
  obtain ⟨iu, hiu, hu0, hu1, hu2⟩ := info_parts u8_info
  have HN := Lib.hid hN
  have H0 := Lib.hid hS
  have HC0 := Lib.hid hC
  clear hN hS hC
  conv => arg 2; whnf
  go_upto_region 5 with (go_at_call 11; refine (next_rd H0.out.rd).mono ?_; rintro e w1 ⟨v, hv, rfl, hrd, hg⟩)
  have H1 := Lib.hid (H0.out.call hg hrd)
  clear hg hrd H0
  obtain ⟨an, han⟩ : ∃ b : Bool, (bits BinOp.and IntKind.i64 (v : Int) 1 == 1) = b := ⟨_, rfl⟩
  obtain ⟨t2, ht2⟩ : ∃ b : Bool, (bits BinOp.and IntKind.i64 (v : Int) 2 == 2) = b := ⟨_, rfl⟩
  go_upto_if 38 with (fail)
  go_cut [] from 39 to 50 (fun wc => ∃ R, DecS w0 wc B r p d an false 0 R [] ∧ Cont R (if an then [94] else []) [false] [] [] [])
  case first =>
    cases an with
    | false =>
      go_wp2_with fail
      go_meet
      case rel => exact ⟨R0, H1.out, HC0.out⟩
    | true =>
      have kp2 := blk_cell H1.out.pblk 2 _ rfl
      have fp2 := blk_free H1.out.pblk 2
      go_upto_region 7 with (fail)
      have H2 := Lib.hid (H1.out.setAn true)
      generalize hw9 : World.setCell w1 _ _ = w2 at *
      clear hw9 kp2 fp2 H1
      have kp0 := blk_cell H2.out.pblk 0 _ rfl
      have fp0 := blk_free H2.out.pblk 0
      have hn0 : (R0 0).n ≤ 100000 := by rw [HC0.out.tn]; simp
      go_wp2_with (at_builtin; go_loud (refine wpList_push _ rfl (.tmp 46) (.tmp 47) 22 rfl B 5 iu (.int .u8 0) 1 1 Tryf.underlying22 hiu hu0 hu1 hu2 rfl (by decide) _ _ _ _ rfl (H2.out.own0.alloc _) ⟨w2.heap.size, 0, none⟩ 1 1 [.int .u8 94] rfl rfl (news_any (by simp)) (by simp [Value.oneCell']) (by decide) (by unfold maxLen; omega) (by omega) (Nat.le_trans H2.out.Bw (by simp)) ?_; intro g1 c1 w8 hown hgrow hwhere; have HO := Lib.hid hown; have HGw := Lib.hid hgrow; have HWh := Lib.hid hwhere; have hk8 := (H2.out.alloc _).pGrown (i := 0) HGw.out; have kc8 := blk_cell hk8 0 _ rfl; have fc8 := blk_free hk8 0; clear hown hgrow hwhere hk8))
      go_meet
      case rel => exact ⟨_, (H2.out.alloc _).push0 HO.out HGw.out HWh.out, HC0.out.push0 (some ⟨g1, 0, none⟩) c1 1 [94] rfl⟩
  obtain ⟨R1, hd1, hc1⟩ := hcut
  have H2 := Lib.hid hd1
  have HC2 := Lib.hid hc1
  clear hd1 hc1 H1 HC0 han
  have kp3 := blk_cell H2.out.pblk 3 _ rfl
  have fp3 := blk_free H2.out.pblk 3
  obtain ⟨tl, htl⟩ : ∃ tl : Bool, (wt && t2) = tl := ⟨_, rfl⟩
  have HTL : Hid (tl = true → wt = true) := Lib.hid (fun h => by rw [← htl] at h; simp at h; exact h.1)
  generalize wc = w2 at *
  go_upto_region 8 with (fail)
  go_cut [] from 51 to 59 (fun wc => DecS w0 wc B r p d an tl 0 R1 [])
  case first =>
    have H3 := Lib.hid (H2.out.setTl tl)
    cases wt with
    | false =>
      obtain rfl : tl = false := by rw [← htl]; rfl
      go_wp2_with fail
      go_meet
      case rel => exact H3.out
    | true =>
      obtain rfl : t2 = tl := by rw [← htl]; rfl
      go_wp2_with fail
      go_meet
      case rel => exact H3.out
  have H3 := Lib.hid hcut
  clear hcut kp3 fp3 H2 ht2 htl
  go_upto_region 11 with (fail)
  rename_i hK
  have HK := Lib.hid hK
  clear hK
  go_wp2_with fail
  refine HK.out _ _ ?_
  clear HK
  go_step
  rename_i hK2
  have HK := Lib.hid hK2
  clear hK2
  go_step
  refine wp_mono (dec_loop (w0 := w0) (B := B) (r := r) (p := p) (d := d) (an := an) (tl := tl) (it := 0) ?hf ?hrel) ?_
  case hf => exact ⟨rfl, rfl, rfl, rfl, rfl⟩
  case hrel => exact ⟨0, R1, [], _, [false], [], [], [], 0, 0, rfl, rfl, rfl, H3.out, HC2.out, DWf.nil an, by omega, by omega⟩
  intro e a' w' hq
  cases e with
  | exit id =>
    obtain ⟨rfl, hf, it, nc, R, ts, txt, ps, op, ct, cl, ub, ob, h9, h10, h11, hS, hC, hW, hi, hob⟩ := hq
    go_wp2_with fail
    refine HK.out _ _ ?_
    refine wp_same (c' := decRest) (by kernel_rfl) ?_
    exact dec_rest_at hS hC hW hi HTL.out HN.out hf.df hf.sz hf.s5 hf.s6 hf.s7
  | ret => exact hq.elim
  | normal => exact hq.elim
  | goto n => exact hq.elim
  | panic ch => exact hq.elim
  | outgrown => exact hq.elim
theorem dec_pre_at {w0 wr : World} {B r p d : Nat} {wt : Bool} {R0 : Fin 6 → Rw} {Q : Exit → Act → World → Prop} (hS : DecS w0 wr B r p d false false 0 R0 []) (hC : Cont R0 [] [false] [] [] [])
    (hN : ∀ a' w', a'.defers = [] → a'.tmps[4]? = some (.pointer (some ⟨p, 0, none⟩)) → DFin w0 w' B p wt → Q .ret a' w') {a : Act} (hdf : a.defers = []) (hsz : a.tmps.size = 408) (h1 : a.tmps[1]? = some (.bool wt)) (h5 : a.tmps[5]? = some (.pointer (some ⟨r, 0, none⟩))) (h6 : a.tmps[6]? = some (.pointer (some ⟨p, 0, none⟩))) (h7 : a.tmps[7]? = some (.pointer (some ⟨d, 0, none⟩))) : decFrom4.wp Tryf.prog Q a wr := by
  obtain ⟨f, hfr⟩ := dframe_lit2 a.tmps hsz h1 h5 h6 h7
  rw [dact_is hdf, hfr]
  exact dec_pre hS hC hN f
def DecPost (wt : Bool) (w : World) (e : Ending) (w' : World) : Prop :=
  ∃ (p : Nat), e = .returned (.pointer (some ⟨p, 0, none⟩)) ∧ DFin w w' w.heap.size p wt
theorem dec_results {tmps : Array Value} {w : World} {v : Value} (h : tmps[4]? = some v) :
    (results Tryf.f5 tmps).run Tryf.prog w = .ok v w := by
  have h' : tmps[4]?.getD undef = v := by rw [h]; rfl
  simp [results, Tryf.results5, h', go_sem]
set_option maxRecDepth 1000000 in
set_option maxHeartbeats 4000000 in
theorem decode_any {w : World} {a : Option Addr} {cap : Nat} {zs : List Int} (hrow : RowInt .u8 w a zs) (hby : ∀ z, z ∈ zs → 0 ≤ z ∧ z ≤ 255) (hl : zs.length ≤ 1048576) (wt : Bool) :
    Calls Tryf.prog 5 #[.slice a zs.length cap, .bool wt] w (DecPost wt w) := by
  have hb : 0 < zs.length → ∀ x, a = some x → x.block < w.heap.size := fun h0 x hx => by
    obtain ⟨sb, so, e, hc⟩ := hrow h0
    rw [hx] at e
    injection e with e
    subst e
    exact lt_of_cell (hc 0 h0)
  have H0 := Lib.hid (dec_start (cap := cap) hrow hb hby hl)
  have HC0 := Lib.hid (cont_start (w.heap.size + 1))
  clear hrow hb hby
  go_enter Tryf.func5, Tryf.ntmps5
  go_upto_region 3 with (fail)
  rename_i hK
  have HK := Lib.hid hK
  clear hK
  go_wp2_with fail
  refine HK.out _ _ ?_
  refine wp_same (c' := decFrom4) (by kernel_rfl) ?_
  refine dec_pre_at H0.out HC0.out ?_ rfl rfl rfl rfl rfl rfl
  intro a' w' hd ht hfin
  exact bodyPost_ret (dec_results ht) hd ⟨_, rfl, hfin⟩

end Go.Proofs.YtcfhhcjcnafcjaaFmt
