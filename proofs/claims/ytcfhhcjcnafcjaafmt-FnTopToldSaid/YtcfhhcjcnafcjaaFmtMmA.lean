/-
  Rounds of the reference's match: the end, classes. Conditions as each statement says.
-/
import Derived.Test.YtcfhhcjcnafcjaaFmtCkMm
import Derived.BigQuiet
import Derived.BigGuardPart
import Derived.Deep.LoopGhost
namespace Go.Proofs.YtcfhhcjcnafcjaaFmt
open Go.RowKit
set_option linter.unusedVariables false
set_option linter.unusedSimpArgs false


set_option maxHeartbeats 4000000 in
set_option maxRecDepth 1000000 in
theorem mm_end {w0 w : World} {B mb ca ea nc : Nat} {sa : Option Addr} {scap : Nat} {src : List Int} {ka : Option Addr} {kcap : Nat} {ts : List Tk} {ks : List Value} {tl : Bool} {R : Rs} {st : St} {s i : Nat} {pre rest : List Tk} {X : Cx} {K : Act → World → Prop} 
    (hm : MM w B mb ca ea nc sa scap src ka kcap ts ks tl st) (hk0 : K2 w0 w ca ea) (hts : ts = pre ++ ([] : List Tk)) (hi : pre.length = i) (hs : s ≤ src.length) (hlin : Lin nc X ([] : List Tk)) (ho : Ord nc X s st) (hR : mt src tl ([] : List Tk) s st = R)
    (hby : ∀ z, z ∈ src → 0 ≤ z ∧ z ≤ 255) (hlen : src.length ≤ 1048576) (htl : ts.length ≤ 1048576) (hnc : nc ≤ 1048576) (ih : MIh B mb ca ea nc sa scap src ka kcap ts ks tl i)
    (hK : ∀ a' w' s' i', i < i' → i' ≤ ts.length → MFr mb s' i' a' → MRel w0 B mb ca ea nc sa scap src ka kcap ts ks tl R w' s' i' → K a' w') (f : Nat → Value) :
    mBody.wp Tryf.prog (Exit.then K (MQ w0 B mb ca ea nc sa scap src ka kcap ts ks tl R)) { tmps := #[.pointer (some ⟨mb, 0, none⟩), .int .i64 (s : Int), .int .i64 (i : Int), f 3, f 4, f 5, f 6, f 7, f 8, f 9, f 10, f 11, f 12, f 13, f 14, f 15, f 16, f 17, f 18, f 19, f 20, f 21, f 22, f 23, f 24, f 25, f 26, f 27, f 28, f 29, f 30, f 31, f 32, f 33, f 34, f 35, f 36, f 37, f 38, f 39, f 40, f 41, f 42, f 43, f 44, f 45, f 46, f 47, f 48, f 49, f 50, f 51, f 52, f 53, f 54, f 55, f 56, f 57, f 58, f 59, f 60, f 61, f 62, f 63, f 64, f 65, f 66, f 67, f 68, f 69, f 70, f 71, f 72, f 73, f 74, f 75, f 76, f 77, f 78, f 79, f 80, f 81, f 82, f 83, f 84, f 85, f 86, f 87, f 88, f 89, f 90, f 91, f 92, f 93, f 94, f 95, f 96, f 97, f 98, f 99, f 100, f 101, f 102, f 103, f 104, f 105, f 106, f 107, f 108, f 109, f 110, f 111, f 112, f 113, f 114, f 115, f 116, f 117, f 118, f 119, f 120, f 121, f 122, f 123, f 124, f 125, f 126, f 127, f 128, f 129, f 130, f 131, f 132, f 133, f 134, f 135, f 136, f 137, f 138, f 139, f 140, f 141, f 142, f 143, f 144, f 145, f 146, f 147, f 148, f 149, f 150, f 151, f 152, f 153, f 154, f 155, f 156, f 157, f 158, f 159, f 160, f 161, f 162, f 163, f 164, f 165, f 166, f 167, f 168, f 169, f 170, f 171, f 172, f 173, f 174, f 175, f 176, f 177, f 178, f 179, f 180, f 181, f 182, f 183, f 184, f 185, f 186, f 187, f 188, f 189, f 190, f 191, f 192, f 193, f 194, f 195, f 196, f 197, f 198, f 199, f 200, f 201, f 202, f 203, f 204, f 205, f 206, f 207, f 208, f 209, f 210, f 211, f 212, f 213, f 214, f 215, f 216, f 217, f 218, f 219, f 220, f 221, f 222, f 223, f 224, f 225, f 226, f 227, f 228, f 229, f 230, f 231, f 232, f 233, f 234, f 235, f 236, f 237, f 238, f 239, f 240, f 241, f 242, f 243, f 244, f 245, f 246, f 247, f 248, f 249, f 250, f 251, f 252, f 253, f 254, f 255, f 256, f 257, f 258, f 259, f 260, f 261, f 262, f 263, f 264, f 265, f 266, f 267, f 268, f 269, f 270, f 271, f 272, f 273, f 274, f 275, f 276, f 277, f 278, f 279, f 280, f 281, f 282, f 283, f 284, f 285, f 286, f 287, f 288, f 289, f 290, f 291, f 292, f 293, f 294, f 295, f 296, f 297, f 298, f 299, f 300, f 301, f 302, f 303, f 304, f 305, f 306, f 307, f 308, f 309, f 310, f 311, f 312, f 313, f 314, f 315, f 316, f 317, f 318, f 319, f 320, f 321, f 322], defers := [] } w := by
  have hil : i = ts.length := by rw [hts, ← hi]; simp
  subst hil
  have km1 := blk_cell hm.blk 1 _ rfl
  have hil2 : decide ((ts.length : Int) < (ts.length : Int)) = false := decide_eq_false (by omega)
  have HREL : Hid (MRel w0 B mb ca ea nc sa scap src ka kcap ts ks tl R w s ts.length) := Lib.hid ⟨pre, [], X, st, hm, hk0, hts, hi, hs, hlin, ho, hR⟩
  clear hm hk0 hts hi hlin ho hR hby ih hK
  conv => arg 2; whnf
  go_wp2_with fail
  exact ⟨rfl, s, mfr_mk rfl rfl rfl rfl rfl rfl rfl, HREL.out⟩




set_option maxHeartbeats 4000000 in
set_option maxRecDepth 1000000 in
theorem mm_plain {w0 w : World} {B mb ca ea nc : Nat} {sa : Option Addr} {scap : Nat} {src : List Int} {ka : Option Addr} {kcap : Nat} {ts : List Tk} {ks : List Value} {tl : Bool} {R : Rs} {st : St} {s i : Nat} {pre rest : List Tk} {X : Cx} {K : Act → World → Prop} {k : CK} 
    (hm : MM w B mb ca ea nc sa scap src ka kcap ts ks tl st) (hk0 : K2 w0 w ca ea) (hts : ts = pre ++ (Tk.cls k 0 :: rest)) (hi : pre.length = i) (hs : s ≤ src.length) (hlin : Lin nc X (Tk.cls k 0 :: rest)) (ho : Ord nc X s st) (hR : mt src tl (Tk.cls k 0 :: rest) s st = R)
    (hby : ∀ z, z ∈ src → 0 ≤ z ∧ z ≤ 255) (hlen : src.length ≤ 1048576) (htl : ts.length ≤ 1048576) (hnc : nc ≤ 1048576) (ih : MIh B mb ca ea nc sa scap src ka kcap ts ks tl i)
    (hK : ∀ a' w' s' i', i < i' → i' ≤ ts.length → MFr mb s' i' a' → MRel w0 B mb ca ea nc sa scap src ka kcap ts ks tl R w' s' i' → K a' w') (f : Nat → Value) :
    mBody.wp Tryf.prog (Exit.then K (MQ w0 B mb ca ea nc sa scap src ka kcap ts ks tl R)) { tmps := #[.pointer (some ⟨mb, 0, none⟩), .int .i64 (s : Int), .int .i64 (i : Int), f 3, f 4, f 5, f 6, f 7, f 8, f 9, f 10, f 11, f 12, f 13, f 14, f 15, f 16, f 17, f 18, f 19, f 20, f 21, f 22, f 23, f 24, f 25, f 26, f 27, f 28, f 29, f 30, f 31, f 32, f 33, f 34, f 35, f 36, f 37, f 38, f 39, f 40, f 41, f 42, f 43, f 44, f 45, f 46, f 47, f 48, f 49, f 50, f 51, f 52, f 53, f 54, f 55, f 56, f 57, f 58, f 59, f 60, f 61, f 62, f 63, f 64, f 65, f 66, f 67, f 68, f 69, f 70, f 71, f 72, f 73, f 74, f 75, f 76, f 77, f 78, f 79, f 80, f 81, f 82, f 83, f 84, f 85, f 86, f 87, f 88, f 89, f 90, f 91, f 92, f 93, f 94, f 95, f 96, f 97, f 98, f 99, f 100, f 101, f 102, f 103, f 104, f 105, f 106, f 107, f 108, f 109, f 110, f 111, f 112, f 113, f 114, f 115, f 116, f 117, f 118, f 119, f 120, f 121, f 122, f 123, f 124, f 125, f 126, f 127, f 128, f 129, f 130, f 131, f 132, f 133, f 134, f 135, f 136, f 137, f 138, f 139, f 140, f 141, f 142, f 143, f 144, f 145, f 146, f 147, f 148, f 149, f 150, f 151, f 152, f 153, f 154, f 155, f 156, f 157, f 158, f 159, f 160, f 161, f 162, f 163, f 164, f 165, f 166, f 167, f 168, f 169, f 170, f 171, f 172, f 173, f 174, f 175, f 176, f 177, f 178, f 179, f 180, f 181, f 182, f 183, f 184, f 185, f 186, f 187, f 188, f 189, f 190, f 191, f 192, f 193, f 194, f 195, f 196, f 197, f 198, f 199, f 200, f 201, f 202, f 203, f 204, f 205, f 206, f 207, f 208, f 209, f 210, f 211, f 212, f 213, f 214, f 215, f 216, f 217, f 218, f 219, f 220, f 221, f 222, f 223, f 224, f 225, f 226, f 227, f 228, f 229, f 230, f 231, f 232, f 233, f 234, f 235, f 236, f 237, f 238, f 239, f 240, f 241, f 242, f 243, f 244, f 245, f 246, f 247, f 248, f 249, f 250, f 251, f 252, f 253, f 254, f 255, f 256, f 257, f 258, f 259, f 260, f 261, f 262, f 263, f 264, f 265, f 266, f 267, f 268, f 269, f 270, f 271, f 272, f 273, f 274, f 275, f 276, f 277, f 278, f 279, f 280, f 281, f 282, f 283, f 284, f 285, f 286, f 287, f 288, f 289, f 290, f 291, f 292, f 293, f 294, f 295, f 296, f 297, f 298, f 299, f 300, f 301, f 302, f 303, f 304, f 305, f 306, f 307, f 308, f 309, f 310, f 311, f 312, f 313, f 314, f 315, f 316, f 317, f 318, f 319, f 320, f 321, f 322], defers := [] } w := by
  have hil : i < ts.length := by rw [hts, ← hi]; simp
  have hti : ts[i]? = some (Tk.cls k 0) := by rw [hts, ← hi, List.getElem?_append_right (Nat.le_refl _), Nat.sub_self]; rfl
  have hts2 : ts = (pre ++ [Tk.cls k 0]) ++ rest := by rw [hts]; simp
  have hi2 : (pre ++ [Tk.cls k 0]).length = i + 1 := by rw [List.length_append, hi]; rfl
  obtain ⟨kb, ys, rfl, hkc, hke, htk, hcell⟩ := hm.tok hti
  have htk0 := htk
  have hili : (i : Int) < (ts.length : Int) := by omega
  have km0 := blk_cell hm.blk 0 _ rfl
  have km1 := blk_cell hm.blk 1 _ rfl
  obtain ⟨c0, c5, -⟩ := cls_cells htk hcell
  have HM := Lib.hid hm
  have HK0 := Lib.hid hk0
  have HTS := Lib.hid hts2
  have HI2 := Lib.hid hi2
  have HLIN := Lib.hid hlin
  have HO := Lib.hid ho
  have HR := Lib.hid hR
  have HBY := Lib.hid hby
  have HTI := Lib.hid hti
  have IH := Lib.hid ih
  have HK := Lib.hid hK
  have HHI := Lib.hid hi
  clear hm hk0 hts hts2 hi hi2 hlin ho hR hby hti ih hK hcell htk0
  conv => arg 2; whnf
  go_wp2_with fail
  refine (one_at (i := i) (s := s) HM.out HBY.out hlen rfl HTI.out (by omega) (by first | rfl | omega)).mono ?_
  rintro e w1 ⟨rfl, hm2, hk2⟩
  have HM1 := Lib.hid hm2
  have HK1 := Lib.hid (HK0.out.trans hk2)
  clear hm2 hk2 htk km0 km1 c0 c5
  have HR1 : Hid ((if oneAt src k s = true then mt src tl rest (s + 1) st else (none, st)) = R) := Lib.hid (by rw [← HR.out]; conv => rhs; unfold mt; rw [if_neg (by omega), if_neg (by omega), if_neg (by omega)])
  cases hone : oneAt src k s with
  | true =>
    have hlt := (oneAt_iff.1 hone).1
    have HR2 : Hid (mt src tl rest (s + 1) st = R) := Lib.hid (by rw [← HR1.out, if_pos hone])
    clear hone
    go_wp2_with fail
    exact HK.out _ _ (s + 1) (i + 1) (by omega) (by omega) (mfr_mk (by omega) (by omega) rfl rfl rfl rfl rfl) ⟨pre ++ [Tk.cls k 0], rest, X, st, HM1.out, HK1.out, HTS.out, HI2.out, by omega, HLIN.out.2, HO.out.mono (by omega), HR2.out⟩
  | false =>
    have HR2 : Hid (((none, st) : Rs) = R) := Lib.hid (by rw [← HR1.out, if_neg (by rw [hone]; simp)])
    clear hone
    go_wp2_with fail
    rw [← HR2.out]
    exact ⟨rfl, rfl, HM1.out, HK1.out⟩




set_option maxHeartbeats 4000000 in
set_option maxRecDepth 1000000 in
theorem mm_star42 {w0 w : World} {B mb ca ea nc : Nat} {sa : Option Addr} {scap : Nat} {src : List Int} {ka : Option Addr} {kcap : Nat} {ts : List Tk} {ks : List Value} {tl : Bool} {R : Rs} {st : St} {s i : Nat} {pre rest : List Tk} {X : Cx} {K : Act → World → Prop} {k : CK} 
    (hm : MM w B mb ca ea nc sa scap src ka kcap ts ks tl st) (hk0 : K2 w0 w ca ea) (hts : ts = pre ++ (Tk.cls k 42 :: rest)) (hi : pre.length = i) (hs : s ≤ src.length) (hlin : Lin nc X (Tk.cls k 42 :: rest)) (ho : Ord nc X s st) (hR : mt src tl (Tk.cls k 42 :: rest) s st = R)
    (hby : ∀ z, z ∈ src → 0 ≤ z ∧ z ≤ 255) (hlen : src.length ≤ 1048576) (htl : ts.length ≤ 1048576) (hnc : nc ≤ 1048576) (ih : MIh B mb ca ea nc sa scap src ka kcap ts ks tl i)
    (hK : ∀ a' w' s' i', i < i' → i' ≤ ts.length → MFr mb s' i' a' → MRel w0 B mb ca ea nc sa scap src ka kcap ts ks tl R w' s' i' → K a' w') (f : Nat → Value) :
    mBody.wp Tryf.prog (Exit.then K (MQ w0 B mb ca ea nc sa scap src ka kcap ts ks tl R)) { tmps := #[.pointer (some ⟨mb, 0, none⟩), .int .i64 (s : Int), .int .i64 (i : Int), f 3, f 4, f 5, f 6, f 7, f 8, f 9, f 10, f 11, f 12, f 13, f 14, f 15, f 16, f 17, f 18, f 19, f 20, f 21, f 22, f 23, f 24, f 25, f 26, f 27, f 28, f 29, f 30, f 31, f 32, f 33, f 34, f 35, f 36, f 37, f 38, f 39, f 40, f 41, f 42, f 43, f 44, f 45, f 46, f 47, f 48, f 49, f 50, f 51, f 52, f 53, f 54, f 55, f 56, f 57, f 58, f 59, f 60, f 61, f 62, f 63, f 64, f 65, f 66, f 67, f 68, f 69, f 70, f 71, f 72, f 73, f 74, f 75, f 76, f 77, f 78, f 79, f 80, f 81, f 82, f 83, f 84, f 85, f 86, f 87, f 88, f 89, f 90, f 91, f 92, f 93, f 94, f 95, f 96, f 97, f 98, f 99, f 100, f 101, f 102, f 103, f 104, f 105, f 106, f 107, f 108, f 109, f 110, f 111, f 112, f 113, f 114, f 115, f 116, f 117, f 118, f 119, f 120, f 121, f 122, f 123, f 124, f 125, f 126, f 127, f 128, f 129, f 130, f 131, f 132, f 133, f 134, f 135, f 136, f 137, f 138, f 139, f 140, f 141, f 142, f 143, f 144, f 145, f 146, f 147, f 148, f 149, f 150, f 151, f 152, f 153, f 154, f 155, f 156, f 157, f 158, f 159, f 160, f 161, f 162, f 163, f 164, f 165, f 166, f 167, f 168, f 169, f 170, f 171, f 172, f 173, f 174, f 175, f 176, f 177, f 178, f 179, f 180, f 181, f 182, f 183, f 184, f 185, f 186, f 187, f 188, f 189, f 190, f 191, f 192, f 193, f 194, f 195, f 196, f 197, f 198, f 199, f 200, f 201, f 202, f 203, f 204, f 205, f 206, f 207, f 208, f 209, f 210, f 211, f 212, f 213, f 214, f 215, f 216, f 217, f 218, f 219, f 220, f 221, f 222, f 223, f 224, f 225, f 226, f 227, f 228, f 229, f 230, f 231, f 232, f 233, f 234, f 235, f 236, f 237, f 238, f 239, f 240, f 241, f 242, f 243, f 244, f 245, f 246, f 247, f 248, f 249, f 250, f 251, f 252, f 253, f 254, f 255, f 256, f 257, f 258, f 259, f 260, f 261, f 262, f 263, f 264, f 265, f 266, f 267, f 268, f 269, f 270, f 271, f 272, f 273, f 274, f 275, f 276, f 277, f 278, f 279, f 280, f 281, f 282, f 283, f 284, f 285, f 286, f 287, f 288, f 289, f 290, f 291, f 292, f 293, f 294, f 295, f 296, f 297, f 298, f 299, f 300, f 301, f 302, f 303, f 304, f 305, f 306, f 307, f 308, f 309, f 310, f 311, f 312, f 313, f 314, f 315, f 316, f 317, f 318, f 319, f 320, f 321, f 322], defers := [] } w := by
  have hil : i < ts.length := by rw [hts, ← hi]; simp
  have hti : ts[i]? = some (Tk.cls k 42) := by rw [hts, ← hi, List.getElem?_append_right (Nat.le_refl _), Nat.sub_self]; rfl
  have hts2 : ts = (pre ++ [Tk.cls k 42]) ++ rest := by rw [hts]; simp
  have hi2 : (pre ++ [Tk.cls k 42]).length = i + 1 := by rw [List.length_append, hi]; rfl
  obtain ⟨kb, ys, rfl, hkc, hke, htk, hcell⟩ := hm.tok hti
  have htk0 := htk
  have hili : (i : Int) < (ts.length : Int) := by omega
  have km0 := blk_cell hm.blk 0 _ rfl
  have km1 := blk_cell hm.blk 1 _ rfl
  obtain ⟨c0, c5, -⟩ := cls_cells htk hcell
  have HM := Lib.hid hm
  have HK0 := Lib.hid hk0
  have HTS := Lib.hid hts2
  have HI2 := Lib.hid hi2
  have HLIN := Lib.hid hlin
  have HO := Lib.hid ho
  have HR := Lib.hid hR
  have HBY := Lib.hid hby
  have HTI := Lib.hid hti
  have IH := Lib.hid ih
  have HK := Lib.hid hK
  have HHI := Lib.hid hi
  clear hm hk0 hts hts2 hi hi2 hlin ho hR hby hti ih hK hcell htk0
  conv => arg 2; whnf
  have HR1 : Hid (down (fun j st => mt src tl rest (s + j) st) 0 (runL (oneAt src k) (src.length - s) s + 1 - 0) st = R) := Lib.hid (by
    have e : mt src tl (Tk.cls k 42 :: rest) s st = (if runL (oneAt src k) (src.length - s) s < 0 then (none, st) else att (fun j st => mt src tl rest (s + j) st) (runL (oneAt src k) (src.length - s) s) (runL (oneAt src k) (src.length - s) s - 0) st) := by
      rw [mt, if_pos (by decide)]
      rfl
    rw [← HR.out, e, star_down st (by omega)])
  have hN := run_le (one := oneAt src k) (src.length - s) s
  have HOUT := Lib.hid (run_out (one := oneAt src k) (src.length - s) s (fun i hi => oneAt_end (by omega)))
  have HIN := Lib.hid (run_in (one := oneAt src k) (src.length - s) s)
  generalize runL (oneAt src k) (src.length - s) s = NN at hN HOUT HIN HR1
  have HHK := hkc
  clear htk HR
  go_wp2_with fail
  clear km0 km1 c0 c5
  go_loopg [8] NN (fun g v8 wr => ∃ j, g = NN - j ∧ j ≤ NN ∧ v8 = .int .i64 (j : Int) ∧ Hid (MM wr B mb ca ea nc sa scap src (some ⟨kb, 0, none⟩) kcap ts ks tl st) ∧ Hid (K2 w0 wr ca ea))
  case atStart => exact ⟨0, rfl, Nat.zero_le _, rfl, HM, HK0⟩
  case round =>
    obtain ⟨j, rfl, hj, rfl, HMr, HKr⟩ := hrel
    go_wp2_with fail
    refine (one_at (i := i) (s := s + j) HMr.out HBY.out hlen rfl HTI.out (by omega) (by first | rfl | omega)).mono ?_
    rintro e w1 ⟨rfl, hm2, hk2⟩
    have HM1 := Lib.hid hm2
    have HK1 := Lib.hid (HKr.out.trans hk2)
    clear hm2 hk2
    cases hone : oneAt src k (s + j) with
    | true =>
      have hjN : j < NN := by
        rcases Nat.lt_or_ge j NN with h | h
        · exact h
        · obtain rfl : j = NN := by omega
          rw [HOUT.out] at hone
          cases hone
      clear hone
      go_wp2_with fail
      go_roundg (NN - (j + 1))
      case measure => omega
      case rel => exact ⟨j + 1, rfl, by omega, rfl, HM1, HK1⟩
    | false =>
      obtain rfl : j = NN := by
        rcases Nat.lt_or_ge j NN with h | h
        · rw [HIN.out j h] at hone
          cases hone
        · omega
      clear hone
      obtain ⟨ys1, htk1, hcell1⟩ := HM1.out.tk HTI.out
      obtain ⟨c0, c5, -⟩ := cls_cells htk1 hcell1
      clear htk1 hcell1
      go_wp2_with fail
      clear c0 c5
      go_loopg [10, 11] (j + 1 - 0) (fun g v10 v11 wr => ∃ (m : Nat) (st' : St), m = g ∧ 0 + m ≤ j + 1 ∧ v10 = .int .i64 ((m : Int) - 1) ∧ Hid (down (fun j st => mt src tl rest (s + j) st) 0 m st' = R) ∧ Hid (MM wr B mb ca ea nc sa scap src (some ⟨kb, 0, none⟩) kcap ts ks tl st') ∧ Hid (K2 w0 wr ca ea) ∧ Hid (Ord nc X s st'))
      case atStart => exact ⟨j + 1 - 0, st, rfl, by omega, by rw [show ((j + 1 - 0 : Nat) : Int) - 1 = (j : Int) by omega], HR1, HM1, HK1, HO⟩
      case round =>
        obtain ⟨m, st', rfl, hmb, rfl, HD, HMs, HKs, HOs⟩ := hrel
        cases m with
        | zero =>
          have tk : decide ((0 : Int) ≤ ((0 : Nat) : Int) - 1) = false := by decide
          go_wp2_with fail
          rw [← HD.out]
          exact ⟨rfl, rfl, HMs.out, HKs.out⟩
        | succ m =>
          have ek : ((m + 1 : Nat) : Int) - 1 = (m : Int) := by omega
          rw [ek]
          have tk : decide ((0 : Int) ≤ (m : Int)) = true := decide_eq_true (by omega)
          have HC := Lib.hid (IH.out _ st' (s + (0 + m)) (pre ++ [Tk.cls k 42]) rest X (sz := (s : Int) + ((m : Int))) (iz := (i : Int) + 1) HMs.out HTS.out (by rw [HI2.out]; omega) (by omega) HLIN.out.2 (HOs.out.mono (by omega)) (by omega) (by rw [HI2.out]; omega))
          have hsame := mt_same (src := src) (tail := tl) rest X (s + (0 + m)) st' HLIN.out.2
          have HSAME := Lib.hid hsame
          clear hsame
          generalize hmr : mt src tl rest (s + (0 + m)) st' = mr at HC HSAME
          have HMR := Lib.hid hmr
          clear hmr
          obtain ⟨_ | t, st2⟩ := mr
          · go_wp2_with fail
            refine (HC.out.mono (fun _ _ h => mpost_no h)).mono ?_
            rintro e w2 ⟨rfl, hm2, hk2⟩
            have HM2 := Lib.hid hm2
            have HK2 := Lib.hid (HKs.out.trans hk2)
            have HO2 := Lib.hid (HOs.out.same HSAME.out)
            clear hm2 hk2
            go_wp2_with fail
            go_roundg m
            case measure => omega
            case rel => exact ⟨m, st2, rfl, by omega, by first | rfl | (congr 1; omega), Lib.hid ((down_at (f := (fun j st => mt src tl rest (s + j) st)) HMR.out).symm.trans HD.out), HM2, HK2, HO2⟩
          · have tt : decide ((0 : Int) ≤ (t : Int)) = true := decide_eq_true (by omega)
            go_wp2_with fail
            refine (HC.out.mono (fun _ _ h => mpost_yes h)).mono ?_
            rintro e w2 ⟨rfl, hm2, hk2⟩
            have HM2 := Lib.hid hm2
            have HK2 := Lib.hid (HKs.out.trans hk2)
            clear hm2 hk2
            go_wp2_with fail
            rw [← HD.out, down_yes (f := (fun j st => mt src tl rest (s + j) st)) HMR.out]
            exact ⟨rfl, rfl, HM2.out, HK2.out⟩




set_option maxHeartbeats 4000000 in
set_option maxRecDepth 1000000 in
theorem mm_star43 {w0 w : World} {B mb ca ea nc : Nat} {sa : Option Addr} {scap : Nat} {src : List Int} {ka : Option Addr} {kcap : Nat} {ts : List Tk} {ks : List Value} {tl : Bool} {R : Rs} {st : St} {s i : Nat} {pre rest : List Tk} {X : Cx} {K : Act → World → Prop} {k : CK} 
    (hm : MM w B mb ca ea nc sa scap src ka kcap ts ks tl st) (hk0 : K2 w0 w ca ea) (hts : ts = pre ++ (Tk.cls k 43 :: rest)) (hi : pre.length = i) (hs : s ≤ src.length) (hlin : Lin nc X (Tk.cls k 43 :: rest)) (ho : Ord nc X s st) (hR : mt src tl (Tk.cls k 43 :: rest) s st = R)
    (hby : ∀ z, z ∈ src → 0 ≤ z ∧ z ≤ 255) (hlen : src.length ≤ 1048576) (htl : ts.length ≤ 1048576) (hnc : nc ≤ 1048576) (ih : MIh B mb ca ea nc sa scap src ka kcap ts ks tl i)
    (hK : ∀ a' w' s' i', i < i' → i' ≤ ts.length → MFr mb s' i' a' → MRel w0 B mb ca ea nc sa scap src ka kcap ts ks tl R w' s' i' → K a' w') (f : Nat → Value) :
    mBody.wp Tryf.prog (Exit.then K (MQ w0 B mb ca ea nc sa scap src ka kcap ts ks tl R)) { tmps := #[.pointer (some ⟨mb, 0, none⟩), .int .i64 (s : Int), .int .i64 (i : Int), f 3, f 4, f 5, f 6, f 7, f 8, f 9, f 10, f 11, f 12, f 13, f 14, f 15, f 16, f 17, f 18, f 19, f 20, f 21, f 22, f 23, f 24, f 25, f 26, f 27, f 28, f 29, f 30, f 31, f 32, f 33, f 34, f 35, f 36, f 37, f 38, f 39, f 40, f 41, f 42, f 43, f 44, f 45, f 46, f 47, f 48, f 49, f 50, f 51, f 52, f 53, f 54, f 55, f 56, f 57, f 58, f 59, f 60, f 61, f 62, f 63, f 64, f 65, f 66, f 67, f 68, f 69, f 70, f 71, f 72, f 73, f 74, f 75, f 76, f 77, f 78, f 79, f 80, f 81, f 82, f 83, f 84, f 85, f 86, f 87, f 88, f 89, f 90, f 91, f 92, f 93, f 94, f 95, f 96, f 97, f 98, f 99, f 100, f 101, f 102, f 103, f 104, f 105, f 106, f 107, f 108, f 109, f 110, f 111, f 112, f 113, f 114, f 115, f 116, f 117, f 118, f 119, f 120, f 121, f 122, f 123, f 124, f 125, f 126, f 127, f 128, f 129, f 130, f 131, f 132, f 133, f 134, f 135, f 136, f 137, f 138, f 139, f 140, f 141, f 142, f 143, f 144, f 145, f 146, f 147, f 148, f 149, f 150, f 151, f 152, f 153, f 154, f 155, f 156, f 157, f 158, f 159, f 160, f 161, f 162, f 163, f 164, f 165, f 166, f 167, f 168, f 169, f 170, f 171, f 172, f 173, f 174, f 175, f 176, f 177, f 178, f 179, f 180, f 181, f 182, f 183, f 184, f 185, f 186, f 187, f 188, f 189, f 190, f 191, f 192, f 193, f 194, f 195, f 196, f 197, f 198, f 199, f 200, f 201, f 202, f 203, f 204, f 205, f 206, f 207, f 208, f 209, f 210, f 211, f 212, f 213, f 214, f 215, f 216, f 217, f 218, f 219, f 220, f 221, f 222, f 223, f 224, f 225, f 226, f 227, f 228, f 229, f 230, f 231, f 232, f 233, f 234, f 235, f 236, f 237, f 238, f 239, f 240, f 241, f 242, f 243, f 244, f 245, f 246, f 247, f 248, f 249, f 250, f 251, f 252, f 253, f 254, f 255, f 256, f 257, f 258, f 259, f 260, f 261, f 262, f 263, f 264, f 265, f 266, f 267, f 268, f 269, f 270, f 271, f 272, f 273, f 274, f 275, f 276, f 277, f 278, f 279, f 280, f 281, f 282, f 283, f 284, f 285, f 286, f 287, f 288, f 289, f 290, f 291, f 292, f 293, f 294, f 295, f 296, f 297, f 298, f 299, f 300, f 301, f 302, f 303, f 304, f 305, f 306, f 307, f 308, f 309, f 310, f 311, f 312, f 313, f 314, f 315, f 316, f 317, f 318, f 319, f 320, f 321, f 322], defers := [] } w := by
  have hil : i < ts.length := by rw [hts, ← hi]; simp
  have hti : ts[i]? = some (Tk.cls k 43) := by rw [hts, ← hi, List.getElem?_append_right (Nat.le_refl _), Nat.sub_self]; rfl
  have hts2 : ts = (pre ++ [Tk.cls k 43]) ++ rest := by rw [hts]; simp
  have hi2 : (pre ++ [Tk.cls k 43]).length = i + 1 := by rw [List.length_append, hi]; rfl
  obtain ⟨kb, ys, rfl, hkc, hke, htk, hcell⟩ := hm.tok hti
  have htk0 := htk
  have hili : (i : Int) < (ts.length : Int) := by omega
  have km0 := blk_cell hm.blk 0 _ rfl
  have km1 := blk_cell hm.blk 1 _ rfl
  obtain ⟨c0, c5, -⟩ := cls_cells htk hcell
  have HM := Lib.hid hm
  have HK0 := Lib.hid hk0
  have HTS := Lib.hid hts2
  have HI2 := Lib.hid hi2
  have HLIN := Lib.hid hlin
  have HO := Lib.hid ho
  have HR := Lib.hid hR
  have HBY := Lib.hid hby
  have HTI := Lib.hid hti
  have IH := Lib.hid ih
  have HK := Lib.hid hK
  have HHI := Lib.hid hi
  clear hm hk0 hts hts2 hi hi2 hlin ho hR hby hti ih hK hcell htk0
  conv => arg 2; whnf
  have HR1 : Hid (down (fun j st => mt src tl rest (s + j) st) 1 (runL (oneAt src k) (src.length - s) s + 1 - 1) st = R) := Lib.hid (by
    have e : mt src tl (Tk.cls k 43 :: rest) s st = (if runL (oneAt src k) (src.length - s) s < 1 then (none, st) else att (fun j st => mt src tl rest (s + j) st) (runL (oneAt src k) (src.length - s) s) (runL (oneAt src k) (src.length - s) s - 1) st) := by
      rw [mt, if_pos (by decide)]
      rfl
    rw [← HR.out, e, star_down st (by omega)])
  have hN := run_le (one := oneAt src k) (src.length - s) s
  have HOUT := Lib.hid (run_out (one := oneAt src k) (src.length - s) s (fun i hi => oneAt_end (by omega)))
  have HIN := Lib.hid (run_in (one := oneAt src k) (src.length - s) s)
  generalize runL (oneAt src k) (src.length - s) s = NN at hN HOUT HIN HR1
  have HHK := hkc
  clear htk HR
  go_wp2_with fail
  clear km0 km1 c0 c5
  go_loopg [8] NN (fun g v8 wr => ∃ j, g = NN - j ∧ j ≤ NN ∧ v8 = .int .i64 (j : Int) ∧ Hid (MM wr B mb ca ea nc sa scap src (some ⟨kb, 0, none⟩) kcap ts ks tl st) ∧ Hid (K2 w0 wr ca ea))
  case atStart => exact ⟨0, rfl, Nat.zero_le _, rfl, HM, HK0⟩
  case round =>
    obtain ⟨j, rfl, hj, rfl, HMr, HKr⟩ := hrel
    go_wp2_with fail
    refine (one_at (i := i) (s := s + j) HMr.out HBY.out hlen rfl HTI.out (by omega) (by first | rfl | omega)).mono ?_
    rintro e w1 ⟨rfl, hm2, hk2⟩
    have HM1 := Lib.hid hm2
    have HK1 := Lib.hid (HKr.out.trans hk2)
    clear hm2 hk2
    cases hone : oneAt src k (s + j) with
    | true =>
      have hjN : j < NN := by
        rcases Nat.lt_or_ge j NN with h | h
        · exact h
        · obtain rfl : j = NN := by omega
          rw [HOUT.out] at hone
          cases hone
      clear hone
      go_wp2_with fail
      go_roundg (NN - (j + 1))
      case measure => omega
      case rel => exact ⟨j + 1, rfl, by omega, rfl, HM1, HK1⟩
    | false =>
      obtain rfl : j = NN := by
        rcases Nat.lt_or_ge j NN with h | h
        · rw [HIN.out j h] at hone
          cases hone
        · omega
      clear hone
      obtain ⟨ys1, htk1, hcell1⟩ := HM1.out.tk HTI.out
      obtain ⟨c0, c5, -⟩ := cls_cells htk1 hcell1
      clear htk1 hcell1
      go_wp2_with fail
      clear c0 c5
      go_loopg [10, 11] (j + 1 - 1) (fun g v10 v11 wr => ∃ (m : Nat) (st' : St), m = g ∧ 1 + m ≤ j + 1 ∧ v10 = .int .i64 ((m : Int) ) ∧ Hid (down (fun j st => mt src tl rest (s + j) st) 1 m st' = R) ∧ Hid (MM wr B mb ca ea nc sa scap src (some ⟨kb, 0, none⟩) kcap ts ks tl st') ∧ Hid (K2 w0 wr ca ea) ∧ Hid (Ord nc X s st'))
      case atStart => exact ⟨j + 1 - 1, st, rfl, by omega, by rw [show j + 1 - 1 = j by omega], HR1, HM1, HK1, HO⟩
      case round =>
        obtain ⟨m, st', rfl, hmb, rfl, HD, HMs, HKs, HOs⟩ := hrel
        cases m with
        | zero =>
          have tk : decide ((1 : Int) ≤ ((0 : Nat) : Int)) = false := by decide
          go_wp2_with fail
          rw [← HD.out]
          exact ⟨rfl, rfl, HMs.out, HKs.out⟩
        | succ m =>
          have ek : ((m + 1 : Nat) : Int) = (m : Int) + 1 := by omega
          rw [ek]
          have tk : decide ((1 : Int) ≤ (m : Int) + 1) = true := decide_eq_true (by omega)
          have HC := Lib.hid (IH.out _ st' (s + (1 + m)) (pre ++ [Tk.cls k 43]) rest X (sz := (s : Int) + ((m : Int) + 1)) (iz := (i : Int) + 1) HMs.out HTS.out (by rw [HI2.out]; omega) (by omega) HLIN.out.2 (HOs.out.mono (by omega)) (by omega) (by rw [HI2.out]; omega))
          have hsame := mt_same (src := src) (tail := tl) rest X (s + (1 + m)) st' HLIN.out.2
          have HSAME := Lib.hid hsame
          clear hsame
          generalize hmr : mt src tl rest (s + (1 + m)) st' = mr at HC HSAME
          have HMR := Lib.hid hmr
          clear hmr
          obtain ⟨_ | t, st2⟩ := mr
          · go_wp2_with fail
            refine (HC.out.mono (fun _ _ h => mpost_no h)).mono ?_
            rintro e w2 ⟨rfl, hm2, hk2⟩
            have HM2 := Lib.hid hm2
            have HK2 := Lib.hid (HKs.out.trans hk2)
            have HO2 := Lib.hid (HOs.out.same HSAME.out)
            clear hm2 hk2
            go_wp2_with fail
            go_roundg m
            case measure => omega
            case rel => exact ⟨m, st2, rfl, by omega, by first | rfl | (congr 1; omega), Lib.hid ((down_at (f := (fun j st => mt src tl rest (s + j) st)) HMR.out).symm.trans HD.out), HM2, HK2, HO2⟩
          · have tt : decide ((0 : Int) ≤ (t : Int)) = true := decide_eq_true (by omega)
            go_wp2_with fail
            refine (HC.out.mono (fun _ _ h => mpost_yes h)).mono ?_
            rintro e w2 ⟨rfl, hm2, hk2⟩
            have HM2 := Lib.hid hm2
            have HK2 := Lib.hid (HKs.out.trans hk2)
            clear hm2 hk2
            go_wp2_with fail
            rw [← HD.out, down_yes (f := (fun j st => mt src tl rest (s + j) st)) HMR.out]
            exact ⟨rfl, rfl, HM2.out, HK2.out⟩




set_option maxHeartbeats 4000000 in
set_option maxRecDepth 1000000 in
theorem mm_minus {w0 w : World} {B mb ca ea nc : Nat} {sa : Option Addr} {scap : Nat} {src : List Int} {ka : Option Addr} {kcap : Nat} {ts : List Tk} {ks : List Value} {tl : Bool} {R : Rs} {st : St} {s i : Nat} {pre rest : List Tk} {X : Cx} {K : Act → World → Prop} {k : CK} 
    (hm : MM w B mb ca ea nc sa scap src ka kcap ts ks tl st) (hk0 : K2 w0 w ca ea) (hts : ts = pre ++ (Tk.cls k 45 :: rest)) (hi : pre.length = i) (hs : s ≤ src.length) (hlin : Lin nc X (Tk.cls k 45 :: rest)) (ho : Ord nc X s st) (hR : mt src tl (Tk.cls k 45 :: rest) s st = R)
    (hby : ∀ z, z ∈ src → 0 ≤ z ∧ z ≤ 255) (hlen : src.length ≤ 1048576) (htl : ts.length ≤ 1048576) (hnc : nc ≤ 1048576) (ih : MIh B mb ca ea nc sa scap src ka kcap ts ks tl i)
    (hK : ∀ a' w' s' i', i < i' → i' ≤ ts.length → MFr mb s' i' a' → MRel w0 B mb ca ea nc sa scap src ka kcap ts ks tl R w' s' i' → K a' w') (f : Nat → Value) :
    mBody.wp Tryf.prog (Exit.then K (MQ w0 B mb ca ea nc sa scap src ka kcap ts ks tl R)) { tmps := #[.pointer (some ⟨mb, 0, none⟩), .int .i64 (s : Int), .int .i64 (i : Int), f 3, f 4, f 5, f 6, f 7, f 8, f 9, f 10, f 11, f 12, f 13, f 14, f 15, f 16, f 17, f 18, f 19, f 20, f 21, f 22, f 23, f 24, f 25, f 26, f 27, f 28, f 29, f 30, f 31, f 32, f 33, f 34, f 35, f 36, f 37, f 38, f 39, f 40, f 41, f 42, f 43, f 44, f 45, f 46, f 47, f 48, f 49, f 50, f 51, f 52, f 53, f 54, f 55, f 56, f 57, f 58, f 59, f 60, f 61, f 62, f 63, f 64, f 65, f 66, f 67, f 68, f 69, f 70, f 71, f 72, f 73, f 74, f 75, f 76, f 77, f 78, f 79, f 80, f 81, f 82, f 83, f 84, f 85, f 86, f 87, f 88, f 89, f 90, f 91, f 92, f 93, f 94, f 95, f 96, f 97, f 98, f 99, f 100, f 101, f 102, f 103, f 104, f 105, f 106, f 107, f 108, f 109, f 110, f 111, f 112, f 113, f 114, f 115, f 116, f 117, f 118, f 119, f 120, f 121, f 122, f 123, f 124, f 125, f 126, f 127, f 128, f 129, f 130, f 131, f 132, f 133, f 134, f 135, f 136, f 137, f 138, f 139, f 140, f 141, f 142, f 143, f 144, f 145, f 146, f 147, f 148, f 149, f 150, f 151, f 152, f 153, f 154, f 155, f 156, f 157, f 158, f 159, f 160, f 161, f 162, f 163, f 164, f 165, f 166, f 167, f 168, f 169, f 170, f 171, f 172, f 173, f 174, f 175, f 176, f 177, f 178, f 179, f 180, f 181, f 182, f 183, f 184, f 185, f 186, f 187, f 188, f 189, f 190, f 191, f 192, f 193, f 194, f 195, f 196, f 197, f 198, f 199, f 200, f 201, f 202, f 203, f 204, f 205, f 206, f 207, f 208, f 209, f 210, f 211, f 212, f 213, f 214, f 215, f 216, f 217, f 218, f 219, f 220, f 221, f 222, f 223, f 224, f 225, f 226, f 227, f 228, f 229, f 230, f 231, f 232, f 233, f 234, f 235, f 236, f 237, f 238, f 239, f 240, f 241, f 242, f 243, f 244, f 245, f 246, f 247, f 248, f 249, f 250, f 251, f 252, f 253, f 254, f 255, f 256, f 257, f 258, f 259, f 260, f 261, f 262, f 263, f 264, f 265, f 266, f 267, f 268, f 269, f 270, f 271, f 272, f 273, f 274, f 275, f 276, f 277, f 278, f 279, f 280, f 281, f 282, f 283, f 284, f 285, f 286, f 287, f 288, f 289, f 290, f 291, f 292, f 293, f 294, f 295, f 296, f 297, f 298, f 299, f 300, f 301, f 302, f 303, f 304, f 305, f 306, f 307, f 308, f 309, f 310, f 311, f 312, f 313, f 314, f 315, f 316, f 317, f 318, f 319, f 320, f 321, f 322], defers := [] } w := by
  have hil : i < ts.length := by rw [hts, ← hi]; simp
  have hti : ts[i]? = some (Tk.cls k 45) := by rw [hts, ← hi, List.getElem?_append_right (Nat.le_refl _), Nat.sub_self]; rfl
  have hts2 : ts = (pre ++ [Tk.cls k 45]) ++ rest := by rw [hts]; simp
  have hi2 : (pre ++ [Tk.cls k 45]).length = i + 1 := by rw [List.length_append, hi]; rfl
  obtain ⟨kb, ys, rfl, hkc, hke, htk, hcell⟩ := hm.tok hti
  have htk0 := htk
  have hili : (i : Int) < (ts.length : Int) := by omega
  have km0 := blk_cell hm.blk 0 _ rfl
  have km1 := blk_cell hm.blk 1 _ rfl
  obtain ⟨c0, c5, -⟩ := cls_cells htk hcell
  have HM := Lib.hid hm
  have HK0 := Lib.hid hk0
  have HTS := Lib.hid hts2
  have HI2 := Lib.hid hi2
  have HLIN := Lib.hid hlin
  have HO := Lib.hid ho
  have HR := Lib.hid hR
  have HBY := Lib.hid hby
  have HTI := Lib.hid hti
  have IH := Lib.hid ih
  have HK := Lib.hid hK
  have HHI := Lib.hid hi
  clear hm hk0 hts hts2 hi hi2 hlin ho hR hby hti ih hK hcell htk0
  conv => arg 2; whnf
  have HR1 : Hid (upw (fun s st => mt src tl rest s st) (oneAt src k) (src.length - s) s st = R) := Lib.hid (by
    rw [← HR.out]
    conv => rhs; unfold mt
    rw [if_neg (by omega), if_pos rfl])
  clear htk HR
  go_wp2_with fail
  clear km0 km1 c0 c5
  go_loopg [1, 12] (src.length - s) (fun g v1 v12 wr => ∃ (s' : Nat) (st' : St), g = src.length - s' ∧ s' ≤ src.length ∧ s ≤ s' ∧ v1 = .int .i64 (s' : Int) ∧ Hid (upw (fun s st => mt src tl rest s st) (oneAt src k) (src.length - s') s' st' = R) ∧ Hid (MM wr B mb ca ea nc sa scap src (some ⟨kb, 0, none⟩) kcap ts ks tl st') ∧ Hid (K2 w0 wr ca ea) ∧ Hid (Ord nc X s' st'))
  case atStart => exact ⟨s, st, rfl, hs, Nat.le_refl _, rfl, HR1, HM, HK0, HO⟩
  case round =>
    obtain ⟨s', st', rfl, hs1, hs2, rfl, HD, HMs, HKs, HOs⟩ := hrel
    have HC := Lib.hid (IH.out _ st' (s') (pre ++ [Tk.cls k 45]) rest X (sz := (s' : Int)) (iz := (i : Int) + 1) HMs.out HTS.out (by rw [HI2.out]; omega) (by omega) HLIN.out.2 (HOs.out) (by omega) (by rw [HI2.out]; omega))
    have hsame := mt_same (src := src) (tail := tl) rest X (s') st' HLIN.out.2
    have HSAME := Lib.hid hsame
    clear hsame
    generalize hmr : mt src tl rest (s') st' = mr at HC HSAME
    have HMR := Lib.hid hmr
    clear hmr
    obtain ⟨_ | t, st2⟩ := mr
    · go_wp2_with fail
      refine (HC.out.mono (fun _ _ h => mpost_no h)).mono ?_
      rintro e w2 ⟨rfl, hm2, hk2⟩
      have HM2 := Lib.hid hm2
      have HK2 := Lib.hid (HKs.out.trans hk2)
      have HO2 := Lib.hid (HOs.out.same HSAME.out)
      clear hm2 hk2
      go_wp2_with fail
      refine (one_at (i := i) (s := s') HM2.out HBY.out hlen rfl HTI.out (by omega) (by first | rfl | omega)).mono ?_
      rintro e w3 ⟨rfl, hm3, hk3⟩
      have HM3 := Lib.hid hm3
      have HK3 := Lib.hid (HK2.out.trans hk3)
      clear hm3 hk3
      cases hone : oneAt src k s' with
      | true =>
        have hlt := (oneAt_iff.1 hone).1
        have HD2 : Hid (upw (fun s st => mt src tl rest s st) (oneAt src k) (src.length - (s' + 1)) (s' + 1) st2 = R) := Lib.hid (by
          rw [← HD.out, show src.length - s' = src.length - (s' + 1) + 1 by omega, upw_on (f := (fun s st => mt src tl rest s st)) HMR.out hone])
        clear hone
        go_wp2_with fail
        go_roundg (src.length - (s' + 1))
        case measure => omega
        case rel => exact ⟨s' + 1, st2, rfl, by omega, by omega, by first | rfl | (congr 1; omega), HD2, HM3, HK3, Lib.hid (HO2.out.mono (by omega))⟩
      | false =>
        have HD2 : Hid (((none, st2) : Rs) = R) := Lib.hid (by rw [← HD.out, upw_no (f := (fun s st => mt src tl rest s st)) HMR.out hone])
        clear hone
        go_wp2_with fail
        rw [← HD2.out]
        exact ⟨rfl, rfl, HM3.out, HK3.out⟩
    · have tt : decide ((0 : Int) ≤ (t : Int)) = true := decide_eq_true (by omega)
      go_wp2_with fail
      refine (HC.out.mono (fun _ _ h => mpost_yes h)).mono ?_
      rintro e w2 ⟨rfl, hm2, hk2⟩
      have HM2 := Lib.hid hm2
      have HK2 := Lib.hid (HKs.out.trans hk2)
      clear hm2 hk2
      go_wp2_with fail
      rw [← HD.out, upw_yes (f := (fun s st => mt src tl rest s st)) HMR.out]
      exact ⟨rfl, rfl, HM2.out, HK2.out⟩




set_option maxHeartbeats 4000000 in
set_option maxRecDepth 1000000 in
theorem mm_opt {w0 w : World} {B mb ca ea nc : Nat} {sa : Option Addr} {scap : Nat} {src : List Int} {ka : Option Addr} {kcap : Nat} {ts : List Tk} {ks : List Value} {tl : Bool} {R : Rs} {st : St} {s i : Nat} {pre rest : List Tk} {X : Cx} {K : Act → World → Prop} {k : CK} 
    (hm : MM w B mb ca ea nc sa scap src ka kcap ts ks tl st) (hk0 : K2 w0 w ca ea) (hts : ts = pre ++ (Tk.cls k 63 :: rest)) (hi : pre.length = i) (hs : s ≤ src.length) (hlin : Lin nc X (Tk.cls k 63 :: rest)) (ho : Ord nc X s st) (hR : mt src tl (Tk.cls k 63 :: rest) s st = R)
    (hby : ∀ z, z ∈ src → 0 ≤ z ∧ z ≤ 255) (hlen : src.length ≤ 1048576) (htl : ts.length ≤ 1048576) (hnc : nc ≤ 1048576) (ih : MIh B mb ca ea nc sa scap src ka kcap ts ks tl i)
    (hK : ∀ a' w' s' i', i < i' → i' ≤ ts.length → MFr mb s' i' a' → MRel w0 B mb ca ea nc sa scap src ka kcap ts ks tl R w' s' i' → K a' w') (f : Nat → Value) :
    mBody.wp Tryf.prog (Exit.then K (MQ w0 B mb ca ea nc sa scap src ka kcap ts ks tl R)) { tmps := #[.pointer (some ⟨mb, 0, none⟩), .int .i64 (s : Int), .int .i64 (i : Int), f 3, f 4, f 5, f 6, f 7, f 8, f 9, f 10, f 11, f 12, f 13, f 14, f 15, f 16, f 17, f 18, f 19, f 20, f 21, f 22, f 23, f 24, f 25, f 26, f 27, f 28, f 29, f 30, f 31, f 32, f 33, f 34, f 35, f 36, f 37, f 38, f 39, f 40, f 41, f 42, f 43, f 44, f 45, f 46, f 47, f 48, f 49, f 50, f 51, f 52, f 53, f 54, f 55, f 56, f 57, f 58, f 59, f 60, f 61, f 62, f 63, f 64, f 65, f 66, f 67, f 68, f 69, f 70, f 71, f 72, f 73, f 74, f 75, f 76, f 77, f 78, f 79, f 80, f 81, f 82, f 83, f 84, f 85, f 86, f 87, f 88, f 89, f 90, f 91, f 92, f 93, f 94, f 95, f 96, f 97, f 98, f 99, f 100, f 101, f 102, f 103, f 104, f 105, f 106, f 107, f 108, f 109, f 110, f 111, f 112, f 113, f 114, f 115, f 116, f 117, f 118, f 119, f 120, f 121, f 122, f 123, f 124, f 125, f 126, f 127, f 128, f 129, f 130, f 131, f 132, f 133, f 134, f 135, f 136, f 137, f 138, f 139, f 140, f 141, f 142, f 143, f 144, f 145, f 146, f 147, f 148, f 149, f 150, f 151, f 152, f 153, f 154, f 155, f 156, f 157, f 158, f 159, f 160, f 161, f 162, f 163, f 164, f 165, f 166, f 167, f 168, f 169, f 170, f 171, f 172, f 173, f 174, f 175, f 176, f 177, f 178, f 179, f 180, f 181, f 182, f 183, f 184, f 185, f 186, f 187, f 188, f 189, f 190, f 191, f 192, f 193, f 194, f 195, f 196, f 197, f 198, f 199, f 200, f 201, f 202, f 203, f 204, f 205, f 206, f 207, f 208, f 209, f 210, f 211, f 212, f 213, f 214, f 215, f 216, f 217, f 218, f 219, f 220, f 221, f 222, f 223, f 224, f 225, f 226, f 227, f 228, f 229, f 230, f 231, f 232, f 233, f 234, f 235, f 236, f 237, f 238, f 239, f 240, f 241, f 242, f 243, f 244, f 245, f 246, f 247, f 248, f 249, f 250, f 251, f 252, f 253, f 254, f 255, f 256, f 257, f 258, f 259, f 260, f 261, f 262, f 263, f 264, f 265, f 266, f 267, f 268, f 269, f 270, f 271, f 272, f 273, f 274, f 275, f 276, f 277, f 278, f 279, f 280, f 281, f 282, f 283, f 284, f 285, f 286, f 287, f 288, f 289, f 290, f 291, f 292, f 293, f 294, f 295, f 296, f 297, f 298, f 299, f 300, f 301, f 302, f 303, f 304, f 305, f 306, f 307, f 308, f 309, f 310, f 311, f 312, f 313, f 314, f 315, f 316, f 317, f 318, f 319, f 320, f 321, f 322], defers := [] } w := by
  have hil : i < ts.length := by rw [hts, ← hi]; simp
  have hti : ts[i]? = some (Tk.cls k 63) := by rw [hts, ← hi, List.getElem?_append_right (Nat.le_refl _), Nat.sub_self]; rfl
  have hts2 : ts = (pre ++ [Tk.cls k 63]) ++ rest := by rw [hts]; simp
  have hi2 : (pre ++ [Tk.cls k 63]).length = i + 1 := by rw [List.length_append, hi]; rfl
  obtain ⟨kb, ys, rfl, hkc, hke, htk, hcell⟩ := hm.tok hti
  have htk0 := htk
  have hili : (i : Int) < (ts.length : Int) := by omega
  have km0 := blk_cell hm.blk 0 _ rfl
  have km1 := blk_cell hm.blk 1 _ rfl
  obtain ⟨c0, c5, -⟩ := cls_cells htk hcell
  have HM := Lib.hid hm
  have HK0 := Lib.hid hk0
  have HTS := Lib.hid hts2
  have HI2 := Lib.hid hi2
  have HLIN := Lib.hid hlin
  have HO := Lib.hid ho
  have HR := Lib.hid hR
  have HBY := Lib.hid hby
  have HTI := Lib.hid hti
  have IH := Lib.hid ih
  have HK := Lib.hid hK
  have HHI := Lib.hid hi
  clear hm hk0 hts hts2 hi hi2 hlin ho hR hby hti ih hK hcell htk0
  conv => arg 2; whnf
  have HR1 : Hid ((if oneAt src k s = true then
        match mt src tl rest (s + 1) st with
        | (some r, st') => (some r, st')
        | (none, st') => mt src tl rest s st'
      else mt src tl rest s st) = R) := Lib.hid (by
    rw [← HR.out]
    conv => rhs; rw [mt, if_neg (by decide), if_neg (by decide), if_pos rfl]
    rfl)
  clear htk HR
  go_wp2_with fail
  refine (one_at (i := i) (s := s) HM.out HBY.out hlen rfl HTI.out (by omega) (by first | rfl | omega)).mono ?_
  rintro e w1 ⟨rfl, hm2, hk2⟩
  have HM1 := Lib.hid hm2
  have HK1 := Lib.hid (HK0.out.trans hk2)
  clear hm2 hk2 km0 km1 c0 c5
  cases hone : oneAt src k s with
  | true =>
    have hlt := (oneAt_iff.1 hone).1
    have HR2 : Hid ((match mt src tl rest (s + 1) st with
        | (some r, st') => (some r, st')
        | (none, st') => mt src tl rest s st') = R) := Lib.hid (by rw [← HR1.out, if_pos hone])
    clear hone
    have HC := Lib.hid (IH.out _ st (s + 1) (pre ++ [Tk.cls k 63]) rest X (sz := (s : Int) + 1) (iz := (i : Int) + 1) HM1.out HTS.out (by rw [HI2.out]; omega) (by omega) HLIN.out.2 (HO.out.mono (by omega)) (by omega) (by rw [HI2.out]; omega))
    have hsame := mt_same (src := src) (tail := tl) rest X (s + 1) st HLIN.out.2
    have HSAME := Lib.hid hsame
    clear hsame
    generalize hmr : mt src tl rest (s + 1) st = mr at HC HSAME
    have HMR := Lib.hid hmr
    clear hmr
    obtain ⟨_ | t, st2⟩ := mr
    · have HR3 : Hid (mt src tl rest s st2 = R) := Lib.hid (by rw [← HR2.out, HMR.out])
      go_wp2_with fail
      refine (HC.out.mono (fun _ _ h => mpost_no h)).mono ?_
      rintro e w2 ⟨rfl, hm2, hk2⟩
      have HM2 := Lib.hid hm2
      have HK2 := Lib.hid (HK1.out.trans hk2)
      have HO2 := Lib.hid (HO.out.same HSAME.out)
      clear hm2 hk2
      go_wp2_with fail
      exact HK.out _ _ (s) (i + 1) (by omega) (by omega) (mfr_mk rfl (by omega) rfl rfl rfl rfl rfl) ⟨pre ++ [Tk.cls k 63], rest, X, st2, HM2.out, HK2.out, HTS.out, HI2.out, by omega, HLIN.out.2, HO2.out, HR3.out⟩
    · have HR3 : Hid (((some t, st2) : Rs) = R) := Lib.hid (by rw [← HR2.out, HMR.out])
      have tt : decide ((0 : Int) ≤ (t : Int)) = true := decide_eq_true (by omega)
      go_wp2_with fail
      refine (HC.out.mono (fun _ _ h => mpost_yes h)).mono ?_
      rintro e w2 ⟨rfl, hm2, hk2⟩
      have HM2 := Lib.hid hm2
      have HK2 := Lib.hid (HK1.out.trans hk2)
      clear hm2 hk2
      go_wp2_with fail
      rw [← HR3.out]
      exact ⟨rfl, rfl, HM2.out, HK2.out⟩
  | false =>
    have HR2 : Hid (mt src tl rest s st = R) := Lib.hid (by rw [← HR1.out, if_neg (by rw [hone]; simp)])
    clear hone
    go_wp2_with fail
    exact HK.out _ _ (s) (i + 1) (by omega) (by omega) (mfr_mk rfl (by omega) rfl rfl rfl rfl rfl) ⟨pre ++ [Tk.cls k 63], rest, X, st, HM1.out, HK1.out, HTS.out, HI2.out, by omega, HLIN.out.2, HO.out, HR2.out⟩



end Go.Proofs.YtcfhhcjcnafcjaaFmt
