/-
  Rounds of the reference's match: captures, a reference, a balanced match. Conditions as each statement says.
-/
import Derived.Test.YtcfhhcjcnafcjaaFmtCkMm
import Derived.BigQuiet
import Derived.BigGuardPart
import Derived.Deep.LoopGhost
namespace Go.Proofs.YtcfhhcjcnafcjaaFmt
open Go.RowKit
set_option linter.unusedVariables false
set_option linter.unusedSimpArgs false


set_option maxHeartbeats 4000000 in
set_option maxRecDepth 1000000 in
theorem mm_opn {w0 w : World} {B mb ca ea nc : Nat} {sa : Option Addr} {scap : Nat} {src : List Int} {ka : Option Addr} {kcap : Nat} {ts : List Tk} {ks : List Value} {tl : Bool} {R : Rs} {st : St} {s i : Nat} {pre rest : List Tk} {X : Cx} {K : Act → World → Prop} {n : Nat} 
    (hm : MM w B mb ca ea nc sa scap src ka kcap ts ks tl st) (hk0 : K2 w0 w ca ea) (hts : ts = pre ++ (Tk.opn n :: rest)) (hi : pre.length = i) (hs : s ≤ src.length) (hlin : Lin nc X (Tk.opn n :: rest)) (ho : Ord nc X s st) (hR : mt src tl (Tk.opn n :: rest) s st = R)
    (hby : ∀ z, z ∈ src → 0 ≤ z ∧ z ≤ 255) (hlen : src.length ≤ 1048576) (htl : ts.length ≤ 1048576) (hnc : nc ≤ 1048576) (ih : MIh B mb ca ea nc sa scap src ka kcap ts ks tl i)
    (hK : ∀ a' w' s' i', i < i' → i' ≤ ts.length → MFr mb s' i' a' → MRel w0 B mb ca ea nc sa scap src ka kcap ts ks tl R w' s' i' → K a' w') (f : Nat → Value) :
    mBody.wp Tryf.prog (Exit.then K (MQ w0 B mb ca ea nc sa scap src ka kcap ts ks tl R)) { tmps := #[.pointer (some ⟨mb, 0, none⟩), .int .i64 (s : Int), .int .i64 (i : Int), f 3, f 4, f 5, f 6, f 7, f 8, f 9, f 10, f 11, f 12, f 13, f 14, f 15, f 16, f 17, f 18, f 19, f 20, f 21, f 22, f 23, f 24, f 25, f 26, f 27, f 28, f 29, f 30, f 31, f 32, f 33, f 34, f 35, f 36, f 37, f 38, f 39, f 40, f 41, f 42, f 43, f 44, f 45, f 46, f 47, f 48, f 49, f 50, f 51, f 52, f 53, f 54, f 55, f 56, f 57, f 58, f 59, f 60, f 61, f 62, f 63, f 64, f 65, f 66, f 67, f 68, f 69, f 70, f 71, f 72, f 73, f 74, f 75, f 76, f 77, f 78, f 79, f 80, f 81, f 82, f 83, f 84, f 85, f 86, f 87, f 88, f 89, f 90, f 91, f 92, f 93, f 94, f 95, f 96, f 97, f 98, f 99, f 100, f 101, f 102, f 103, f 104, f 105, f 106, f 107, f 108, f 109, f 110, f 111, f 112, f 113, f 114, f 115, f 116, f 117, f 118, f 119, f 120, f 121, f 122, f 123, f 124, f 125, f 126, f 127, f 128, f 129, f 130, f 131, f 132, f 133, f 134, f 135, f 136, f 137, f 138, f 139, f 140, f 141, f 142, f 143, f 144, f 145, f 146, f 147, f 148, f 149, f 150, f 151, f 152, f 153, f 154, f 155, f 156, f 157, f 158, f 159, f 160, f 161, f 162, f 163, f 164, f 165, f 166, f 167, f 168, f 169, f 170, f 171, f 172, f 173, f 174, f 175, f 176, f 177, f 178, f 179, f 180, f 181, f 182, f 183, f 184, f 185, f 186, f 187, f 188, f 189, f 190, f 191, f 192, f 193, f 194, f 195, f 196, f 197, f 198, f 199, f 200, f 201, f 202, f 203, f 204, f 205, f 206, f 207, f 208, f 209, f 210, f 211, f 212, f 213, f 214, f 215, f 216, f 217, f 218, f 219, f 220, f 221, f 222, f 223, f 224, f 225, f 226, f 227, f 228, f 229, f 230, f 231, f 232, f 233, f 234, f 235, f 236, f 237, f 238, f 239, f 240, f 241, f 242, f 243, f 244, f 245, f 246, f 247, f 248, f 249, f 250, f 251, f 252, f 253, f 254, f 255, f 256, f 257, f 258, f 259, f 260, f 261, f 262, f 263, f 264, f 265, f 266, f 267, f 268, f 269, f 270, f 271, f 272, f 273, f 274, f 275, f 276, f 277, f 278, f 279, f 280, f 281, f 282, f 283, f 284, f 285, f 286, f 287, f 288, f 289, f 290, f 291, f 292, f 293, f 294, f 295, f 296, f 297, f 298, f 299, f 300, f 301, f 302, f 303, f 304, f 305, f 306, f 307, f 308, f 309, f 310, f 311, f 312, f 313, f 314, f 315, f 316, f 317, f 318, f 319, f 320, f 321, f 322], defers := [] } w := by
  have hil : i < ts.length := by rw [hts, ← hi]; simp
  have hti : ts[i]? = some (Tk.opn n) := by rw [hts, ← hi, List.getElem?_append_right (Nat.le_refl _), Nat.sub_self]; rfl
  have hts2 : ts = (pre ++ [Tk.opn n]) ++ rest := by rw [hts]; simp
  have hi2 : (pre ++ [Tk.opn n]).length = i + 1 := by rw [List.length_append, hi]; rfl
  obtain ⟨kb, ys, rfl, hkc, hke, htk, hcell⟩ := hm.tok hti
  have htk0 := htk
  have hili : (i : Int) < (ts.length : Int) := by omega
  have km0 := blk_cell hm.blk 0 _ rfl
  have km1 := blk_cell hm.blk 1 _ rfl
  cases htk
  have c0 := hcell 0 _ rfl
  have c6 := hcell 6 _ rfl
  have c7 := hcell 7 _ rfl
  rw [Nat.add_zero] at c0
  have HM := Lib.hid hm
  have HK0 := Lib.hid hk0
  have HTS := Lib.hid hts2
  have HI2 := Lib.hid hi2
  have HLIN := Lib.hid hlin
  have HO := Lib.hid ho
  have HR := Lib.hid hR
  have HBY := Lib.hid hby
  have HTI := Lib.hid hti
  have IH := Lib.hid ih
  have HK := Lib.hid hK
  have HHI := Lib.hid hi
  clear hm hk0 hts hts2 hi hi2 hlin ho hR hby hti ih hK hcell htk0
  conv => arg 2; whnf
  have hn1 : n ≤ nc := HLIN.out.2.1
  have hni : (n : Int) < (nc : Int) + 1 := by omega
  have hni2 : (n : Int) < ((nc + 1 : Nat) : Int) := by omega
  have hsw : IntKind.i64.wrap ((s : Int) + 1) = (s : Int) + 1 := by rw [IntWalk.i64_in _ (by omega)]
  go_upto_region 57 with (fail)
  clear c6 c7
  clear km0 km1 c0
  have km := blk_cell HM.out.blk 2 _ rfl
  obtain ⟨ysx, htkx, hcellx⟩ := HM.out.tk HTI.out
  cases htkx
  have c6 := hcellx 6 _ rfl
  have cold := HM.out.cs (n := n) (by omega)
  have fold := HM.out.co.frozenAt n
  have hne1 : ca ≠ mb := Ne.symm HM.out.mbne.1
  have hne2 : ca ≠ kb := Ne.symm hkc
  clear hcellx
  go_region_held3 (fun w' => w'.cell? ⟨mb, 2, none⟩ = some (.slice (some ⟨ca, 0, none⟩) (nc + 1) (nc + 1)) ∧ w'.cell? ⟨kb, i * 8 + 6, none⟩ = some (.int .i64 (n : Int))) (first | go_keep | (refine ⟨?_, ?_⟩ <;> (rw [World.cell?_setCell_far _ _ _ _ (by assumption)]; assumption))) (fail)
  rename_i hHeld
  clear hHeld km c6 cold fold hne1 hne2
  have hset := HM.out.setC n s
  have HMw5 : Hid (MM (w.setCell ⟨ca, n, none⟩ (.int .i64 ((s : Int)))).drew B mb ca ea nc sa scap src (some ⟨kb, 0, none⟩) kcap ts ks tl _) := Lib.hid (hset.1.below ⟨rfl, rfl, rfl, Nat.le_refl _, fun _ _ => rfl⟩)
  have HKw5 : Hid (K2 w0 (w.setCell ⟨ca, n, none⟩ (.int .i64 ((s : Int)))).drew ca ea) := Lib.hid (HK0.out.trans (hset.2.trans (K2.of_below ⟨rfl, rfl, rfl, Nat.le_refl _, fun _ _ => rfl⟩)))
  clear hset
  generalize (w.setCell ⟨ca, n, none⟩ (.int .i64 ((s : Int)))).drew = w5 at *
  go_wp2_with fail
  exact HK.out _ _ (s) (i + 1) (by omega) (by omega) (mfr_mk rfl (by omega) rfl rfl rfl rfl rfl) ⟨pre ++ [Tk.opn n], rest, X.adv (Tk.opn n), (st.1.set n s, st.2), HMw5.out, HKw5.out, HTS.out, HI2.out, by omega, HLIN.out.2.2.2.2, HO.out.opn hn1 HLIN.out.2.2.1, (by rw [← HR.out, mt])⟩




set_option maxHeartbeats 4000000 in
set_option maxRecDepth 1000000 in
theorem mm_clo {w0 w : World} {B mb ca ea nc : Nat} {sa : Option Addr} {scap : Nat} {src : List Int} {ka : Option Addr} {kcap : Nat} {ts : List Tk} {ks : List Value} {tl : Bool} {R : Rs} {st : St} {s i : Nat} {pre rest : List Tk} {X : Cx} {K : Act → World → Prop} {n : Nat} 
    (hm : MM w B mb ca ea nc sa scap src ka kcap ts ks tl st) (hk0 : K2 w0 w ca ea) (hts : ts = pre ++ (Tk.clo n :: rest)) (hi : pre.length = i) (hs : s ≤ src.length) (hlin : Lin nc X (Tk.clo n :: rest)) (ho : Ord nc X s st) (hR : mt src tl (Tk.clo n :: rest) s st = R)
    (hby : ∀ z, z ∈ src → 0 ≤ z ∧ z ≤ 255) (hlen : src.length ≤ 1048576) (htl : ts.length ≤ 1048576) (hnc : nc ≤ 1048576) (ih : MIh B mb ca ea nc sa scap src ka kcap ts ks tl i)
    (hK : ∀ a' w' s' i', i < i' → i' ≤ ts.length → MFr mb s' i' a' → MRel w0 B mb ca ea nc sa scap src ka kcap ts ks tl R w' s' i' → K a' w') (f : Nat → Value) :
    mBody.wp Tryf.prog (Exit.then K (MQ w0 B mb ca ea nc sa scap src ka kcap ts ks tl R)) { tmps := #[.pointer (some ⟨mb, 0, none⟩), .int .i64 (s : Int), .int .i64 (i : Int), f 3, f 4, f 5, f 6, f 7, f 8, f 9, f 10, f 11, f 12, f 13, f 14, f 15, f 16, f 17, f 18, f 19, f 20, f 21, f 22, f 23, f 24, f 25, f 26, f 27, f 28, f 29, f 30, f 31, f 32, f 33, f 34, f 35, f 36, f 37, f 38, f 39, f 40, f 41, f 42, f 43, f 44, f 45, f 46, f 47, f 48, f 49, f 50, f 51, f 52, f 53, f 54, f 55, f 56, f 57, f 58, f 59, f 60, f 61, f 62, f 63, f 64, f 65, f 66, f 67, f 68, f 69, f 70, f 71, f 72, f 73, f 74, f 75, f 76, f 77, f 78, f 79, f 80, f 81, f 82, f 83, f 84, f 85, f 86, f 87, f 88, f 89, f 90, f 91, f 92, f 93, f 94, f 95, f 96, f 97, f 98, f 99, f 100, f 101, f 102, f 103, f 104, f 105, f 106, f 107, f 108, f 109, f 110, f 111, f 112, f 113, f 114, f 115, f 116, f 117, f 118, f 119, f 120, f 121, f 122, f 123, f 124, f 125, f 126, f 127, f 128, f 129, f 130, f 131, f 132, f 133, f 134, f 135, f 136, f 137, f 138, f 139, f 140, f 141, f 142, f 143, f 144, f 145, f 146, f 147, f 148, f 149, f 150, f 151, f 152, f 153, f 154, f 155, f 156, f 157, f 158, f 159, f 160, f 161, f 162, f 163, f 164, f 165, f 166, f 167, f 168, f 169, f 170, f 171, f 172, f 173, f 174, f 175, f 176, f 177, f 178, f 179, f 180, f 181, f 182, f 183, f 184, f 185, f 186, f 187, f 188, f 189, f 190, f 191, f 192, f 193, f 194, f 195, f 196, f 197, f 198, f 199, f 200, f 201, f 202, f 203, f 204, f 205, f 206, f 207, f 208, f 209, f 210, f 211, f 212, f 213, f 214, f 215, f 216, f 217, f 218, f 219, f 220, f 221, f 222, f 223, f 224, f 225, f 226, f 227, f 228, f 229, f 230, f 231, f 232, f 233, f 234, f 235, f 236, f 237, f 238, f 239, f 240, f 241, f 242, f 243, f 244, f 245, f 246, f 247, f 248, f 249, f 250, f 251, f 252, f 253, f 254, f 255, f 256, f 257, f 258, f 259, f 260, f 261, f 262, f 263, f 264, f 265, f 266, f 267, f 268, f 269, f 270, f 271, f 272, f 273, f 274, f 275, f 276, f 277, f 278, f 279, f 280, f 281, f 282, f 283, f 284, f 285, f 286, f 287, f 288, f 289, f 290, f 291, f 292, f 293, f 294, f 295, f 296, f 297, f 298, f 299, f 300, f 301, f 302, f 303, f 304, f 305, f 306, f 307, f 308, f 309, f 310, f 311, f 312, f 313, f 314, f 315, f 316, f 317, f 318, f 319, f 320, f 321, f 322], defers := [] } w := by
  have hil : i < ts.length := by rw [hts, ← hi]; simp
  have hti : ts[i]? = some (Tk.clo n) := by rw [hts, ← hi, List.getElem?_append_right (Nat.le_refl _), Nat.sub_self]; rfl
  have hts2 : ts = (pre ++ [Tk.clo n]) ++ rest := by rw [hts]; simp
  have hi2 : (pre ++ [Tk.clo n]).length = i + 1 := by rw [List.length_append, hi]; rfl
  obtain ⟨kb, ys, rfl, hkc, hke, htk, hcell⟩ := hm.tok hti
  have htk0 := htk
  have hili : (i : Int) < (ts.length : Int) := by omega
  have km0 := blk_cell hm.blk 0 _ rfl
  have km1 := blk_cell hm.blk 1 _ rfl
  cases htk
  have c0 := hcell 0 _ rfl
  have c6 := hcell 6 _ rfl
  have c7 := hcell 7 _ rfl
  rw [Nat.add_zero] at c0
  have HM := Lib.hid hm
  have HK0 := Lib.hid hk0
  have HTS := Lib.hid hts2
  have HI2 := Lib.hid hi2
  have HLIN := Lib.hid hlin
  have HO := Lib.hid ho
  have HR := Lib.hid hR
  have HBY := Lib.hid hby
  have HTI := Lib.hid hti
  have IH := Lib.hid ih
  have HK := Lib.hid hK
  have HHI := Lib.hid hi
  clear hm hk0 hts hts2 hi hi2 hlin ho hR hby hti ih hK hcell htk0
  conv => arg 2; whnf
  have hn1 : n ≤ nc := HLIN.out.2.1
  have hni : (n : Int) < (nc : Int) + 1 := by omega
  have hni2 : (n : Int) < ((nc + 1 : Nat) : Int) := by omega
  have hsw : IntKind.i64.wrap ((s : Int) + 1) = (s : Int) + 1 := by rw [IntWalk.i64_in _ (by omega)]
  go_upto_region 60 with (fail)
  clear c6 c7
  clear km0 km1 c0
  have km := blk_cell HM.out.blk 3 _ rfl
  obtain ⟨ysx, htkx, hcellx⟩ := HM.out.tk HTI.out
  cases htkx
  have c6 := hcellx 6 _ rfl
  have cold := HM.out.es (n := n) (by omega)
  have fold := HM.out.eo.frozenAt n
  have hne1 : ea ≠ mb := Ne.symm HM.out.mbne.2
  have hne2 : ea ≠ kb := Ne.symm hke
  clear hcellx
  go_region_held3 (fun w' => w'.cell? ⟨mb, 3, none⟩ = some (.slice (some ⟨ea, 0, none⟩) (nc + 1) (nc + 1)) ∧ w'.cell? ⟨kb, i * 8 + 6, none⟩ = some (.int .i64 (n : Int))) (first | go_keep | (refine ⟨?_, ?_⟩ <;> (rw [World.cell?_setCell_far _ _ _ _ (by assumption)]; assumption))) (fail)
  rename_i hHeld
  clear hHeld km c6 cold fold hne1 hne2
  have hset := HM.out.setE n s
  have HMw5 : Hid (MM (w.setCell ⟨ea, n, none⟩ (.int .i64 ((s : Int)))).drew B mb ca ea nc sa scap src (some ⟨kb, 0, none⟩) kcap ts ks tl _) := Lib.hid (hset.1.below ⟨rfl, rfl, rfl, Nat.le_refl _, fun _ _ => rfl⟩)
  have HKw5 : Hid (K2 w0 (w.setCell ⟨ea, n, none⟩ (.int .i64 ((s : Int)))).drew ca ea) := Lib.hid (HK0.out.trans (hset.2.trans (K2.of_below ⟨rfl, rfl, rfl, Nat.le_refl _, fun _ _ => rfl⟩)))
  clear hset
  generalize (w.setCell ⟨ea, n, none⟩ (.int .i64 ((s : Int)))).drew = w5 at *
  go_wp2_with fail
  exact HK.out _ _ (s) (i + 1) (by omega) (by omega) (mfr_mk rfl (by omega) rfl rfl rfl rfl rfl) ⟨pre ++ [Tk.clo n], rest, X.adv (Tk.clo n), (st.1, st.2.set n s), HMw5.out, HKw5.out, HTS.out, HI2.out, by omega, HLIN.out.2.2.2.2.2, HO.out.clo hn1 HLIN.out.2.2.1 HLIN.out.2.2.2.2.1, (by rw [← HR.out, mt])⟩




set_option maxHeartbeats 4000000 in
set_option maxRecDepth 1000000 in
theorem mm_pos {w0 w : World} {B mb ca ea nc : Nat} {sa : Option Addr} {scap : Nat} {src : List Int} {ka : Option Addr} {kcap : Nat} {ts : List Tk} {ks : List Value} {tl : Bool} {R : Rs} {st : St} {s i : Nat} {pre rest : List Tk} {X : Cx} {K : Act → World → Prop} {n : Nat} 
    (hm : MM w B mb ca ea nc sa scap src ka kcap ts ks tl st) (hk0 : K2 w0 w ca ea) (hts : ts = pre ++ (Tk.pos n :: rest)) (hi : pre.length = i) (hs : s ≤ src.length) (hlin : Lin nc X (Tk.pos n :: rest)) (ho : Ord nc X s st) (hR : mt src tl (Tk.pos n :: rest) s st = R)
    (hby : ∀ z, z ∈ src → 0 ≤ z ∧ z ≤ 255) (hlen : src.length ≤ 1048576) (htl : ts.length ≤ 1048576) (hnc : nc ≤ 1048576) (ih : MIh B mb ca ea nc sa scap src ka kcap ts ks tl i)
    (hK : ∀ a' w' s' i', i < i' → i' ≤ ts.length → MFr mb s' i' a' → MRel w0 B mb ca ea nc sa scap src ka kcap ts ks tl R w' s' i' → K a' w') (f : Nat → Value) :
    mBody.wp Tryf.prog (Exit.then K (MQ w0 B mb ca ea nc sa scap src ka kcap ts ks tl R)) { tmps := #[.pointer (some ⟨mb, 0, none⟩), .int .i64 (s : Int), .int .i64 (i : Int), f 3, f 4, f 5, f 6, f 7, f 8, f 9, f 10, f 11, f 12, f 13, f 14, f 15, f 16, f 17, f 18, f 19, f 20, f 21, f 22, f 23, f 24, f 25, f 26, f 27, f 28, f 29, f 30, f 31, f 32, f 33, f 34, f 35, f 36, f 37, f 38, f 39, f 40, f 41, f 42, f 43, f 44, f 45, f 46, f 47, f 48, f 49, f 50, f 51, f 52, f 53, f 54, f 55, f 56, f 57, f 58, f 59, f 60, f 61, f 62, f 63, f 64, f 65, f 66, f 67, f 68, f 69, f 70, f 71, f 72, f 73, f 74, f 75, f 76, f 77, f 78, f 79, f 80, f 81, f 82, f 83, f 84, f 85, f 86, f 87, f 88, f 89, f 90, f 91, f 92, f 93, f 94, f 95, f 96, f 97, f 98, f 99, f 100, f 101, f 102, f 103, f 104, f 105, f 106, f 107, f 108, f 109, f 110, f 111, f 112, f 113, f 114, f 115, f 116, f 117, f 118, f 119, f 120, f 121, f 122, f 123, f 124, f 125, f 126, f 127, f 128, f 129, f 130, f 131, f 132, f 133, f 134, f 135, f 136, f 137, f 138, f 139, f 140, f 141, f 142, f 143, f 144, f 145, f 146, f 147, f 148, f 149, f 150, f 151, f 152, f 153, f 154, f 155, f 156, f 157, f 158, f 159, f 160, f 161, f 162, f 163, f 164, f 165, f 166, f 167, f 168, f 169, f 170, f 171, f 172, f 173, f 174, f 175, f 176, f 177, f 178, f 179, f 180, f 181, f 182, f 183, f 184, f 185, f 186, f 187, f 188, f 189, f 190, f 191, f 192, f 193, f 194, f 195, f 196, f 197, f 198, f 199, f 200, f 201, f 202, f 203, f 204, f 205, f 206, f 207, f 208, f 209, f 210, f 211, f 212, f 213, f 214, f 215, f 216, f 217, f 218, f 219, f 220, f 221, f 222, f 223, f 224, f 225, f 226, f 227, f 228, f 229, f 230, f 231, f 232, f 233, f 234, f 235, f 236, f 237, f 238, f 239, f 240, f 241, f 242, f 243, f 244, f 245, f 246, f 247, f 248, f 249, f 250, f 251, f 252, f 253, f 254, f 255, f 256, f 257, f 258, f 259, f 260, f 261, f 262, f 263, f 264, f 265, f 266, f 267, f 268, f 269, f 270, f 271, f 272, f 273, f 274, f 275, f 276, f 277, f 278, f 279, f 280, f 281, f 282, f 283, f 284, f 285, f 286, f 287, f 288, f 289, f 290, f 291, f 292, f 293, f 294, f 295, f 296, f 297, f 298, f 299, f 300, f 301, f 302, f 303, f 304, f 305, f 306, f 307, f 308, f 309, f 310, f 311, f 312, f 313, f 314, f 315, f 316, f 317, f 318, f 319, f 320, f 321, f 322], defers := [] } w := by
  have hil : i < ts.length := by rw [hts, ← hi]; simp
  have hti : ts[i]? = some (Tk.pos n) := by rw [hts, ← hi, List.getElem?_append_right (Nat.le_refl _), Nat.sub_self]; rfl
  have hts2 : ts = (pre ++ [Tk.pos n]) ++ rest := by rw [hts]; simp
  have hi2 : (pre ++ [Tk.pos n]).length = i + 1 := by rw [List.length_append, hi]; rfl
  obtain ⟨kb, ys, rfl, hkc, hke, htk, hcell⟩ := hm.tok hti
  have htk0 := htk
  have hili : (i : Int) < (ts.length : Int) := by omega
  have km0 := blk_cell hm.blk 0 _ rfl
  have km1 := blk_cell hm.blk 1 _ rfl
  cases htk
  have c0 := hcell 0 _ rfl
  have c6 := hcell 6 _ rfl
  have c7 := hcell 7 _ rfl
  rw [Nat.add_zero] at c0
  have HM := Lib.hid hm
  have HK0 := Lib.hid hk0
  have HTS := Lib.hid hts2
  have HI2 := Lib.hid hi2
  have HLIN := Lib.hid hlin
  have HO := Lib.hid ho
  have HR := Lib.hid hR
  have HBY := Lib.hid hby
  have HTI := Lib.hid hti
  have IH := Lib.hid ih
  have HK := Lib.hid hK
  have HHI := Lib.hid hi
  clear hm hk0 hts hts2 hi hi2 hlin ho hR hby hti ih hK hcell htk0
  conv => arg 2; whnf
  have hn1 : n ≤ nc := HLIN.out.2.1
  have hni : (n : Int) < (nc : Int) + 1 := by omega
  have hni2 : (n : Int) < ((nc + 1 : Nat) : Int) := by omega
  have hsw : IntKind.i64.wrap ((s : Int) + 1) = (s : Int) + 1 := by rw [IntWalk.i64_in _ (by omega)]
  go_upto_region 63 with (fail)
  clear c6 c7
  clear km0 km1 c0
  have km := blk_cell HM.out.blk 2 _ rfl
  obtain ⟨ysx, htkx, hcellx⟩ := HM.out.tk HTI.out
  cases htkx
  have c6 := hcellx 6 _ rfl
  have cold := HM.out.cs (n := n) (by omega)
  have fold := HM.out.co.frozenAt n
  have hne1 : ca ≠ mb := Ne.symm HM.out.mbne.1
  have hne2 : ca ≠ kb := Ne.symm hkc
  clear hcellx
  go_region_held3 (fun w' => w'.cell? ⟨mb, 2, none⟩ = some (.slice (some ⟨ca, 0, none⟩) (nc + 1) (nc + 1)) ∧ w'.cell? ⟨kb, i * 8 + 6, none⟩ = some (.int .i64 (n : Int))) (first | go_keep | (refine ⟨?_, ?_⟩ <;> (rw [World.cell?_setCell_far _ _ _ _ (by assumption)]; assumption))) (fail)
  rename_i hHeld
  clear hHeld km c6 cold fold hne1 hne2
  have hset := HM.out.setC n (s + 1)
  rw [show ((s + 1 : Nat) : Int) = (s : Int) + 1 by omega] at hset
  have HMw5 : Hid (MM (w.setCell ⟨ca, n, none⟩ (.int .i64 ((s : Int) + 1))).drew B mb ca ea nc sa scap src (some ⟨kb, 0, none⟩) kcap ts ks tl _) := Lib.hid (hset.1.below ⟨rfl, rfl, rfl, Nat.le_refl _, fun _ _ => rfl⟩)
  have HKw5 : Hid (K2 w0 (w.setCell ⟨ca, n, none⟩ (.int .i64 ((s : Int) + 1))).drew ca ea) := Lib.hid (HK0.out.trans (hset.2.trans (K2.of_below ⟨rfl, rfl, rfl, Nat.le_refl _, fun _ _ => rfl⟩)))
  clear hset
  generalize (w.setCell ⟨ca, n, none⟩ (.int .i64 ((s : Int) + 1))).drew = w5 at *
  go_upto_region 64 with (fail)
  have km := blk_cell HMw5.out.blk 3 _ rfl
  obtain ⟨ysx, htkx, hcellx⟩ := HMw5.out.tk HTI.out
  cases htkx
  have c6 := hcellx 6 _ rfl
  have cold := HMw5.out.es (n := n) (by omega)
  have fold := HMw5.out.eo.frozenAt n
  have hne1 : ea ≠ mb := Ne.symm HMw5.out.mbne.2
  have hne2 : ea ≠ kb := Ne.symm hke
  clear hcellx
  go_region_held3 (fun w' => w'.cell? ⟨mb, 3, none⟩ = some (.slice (some ⟨ea, 0, none⟩) (nc + 1) (nc + 1)) ∧ w'.cell? ⟨kb, i * 8 + 6, none⟩ = some (.int .i64 (n : Int))) (first | go_keep | (refine ⟨?_, ?_⟩ <;> (rw [World.cell?_setCell_far _ _ _ _ (by assumption)]; assumption))) (fail)
  rename_i hHeld
  clear hHeld km c6 cold fold hne1 hne2
  have hset := HMw5.out.setE n (s + 1)
  rw [show ((s + 1 : Nat) : Int) = (s : Int) + 1 by omega] at hset
  have HMw6 : Hid (MM (w5.setCell ⟨ea, n, none⟩ (.int .i64 ((s : Int) + 1))).drew B mb ca ea nc sa scap src (some ⟨kb, 0, none⟩) kcap ts ks tl _) := Lib.hid (hset.1.below ⟨rfl, rfl, rfl, Nat.le_refl _, fun _ _ => rfl⟩)
  have HKw6 : Hid (K2 w0 (w5.setCell ⟨ea, n, none⟩ (.int .i64 ((s : Int) + 1))).drew ca ea) := Lib.hid (HKw5.out.trans (hset.2.trans (K2.of_below ⟨rfl, rfl, rfl, Nat.le_refl _, fun _ _ => rfl⟩)))
  clear hset
  generalize (w5.setCell ⟨ea, n, none⟩ (.int .i64 ((s : Int) + 1))).drew = w6 at *
  go_wp2_with fail
  exact HK.out _ _ (s) (i + 1) (by omega) (by omega) (mfr_mk rfl (by omega) rfl rfl rfl rfl rfl) ⟨pre ++ [Tk.pos n], rest, X.adv (Tk.pos n), (st.1.set n (s + 1), st.2.set n (s + 1)), HMw6.out, HKw6.out, HTS.out, HI2.out, by omega, HLIN.out.2.2.2.2.2, HO.out.pos HLIN.out.2.2.1, (by rw [← HR.out, mt])⟩




set_option maxHeartbeats 4000000 in
set_option maxRecDepth 1000000 in
theorem mm_ref {w0 w : World} {B mb ca ea nc : Nat} {sa : Option Addr} {scap : Nat} {src : List Int} {ka : Option Addr} {kcap : Nat} {ts : List Tk} {ks : List Value} {tl : Bool} {R : Rs} {st : St} {s i : Nat} {pre rest : List Tk} {X : Cx} {K : Act → World → Prop} {n : Nat} 
    (hm : MM w B mb ca ea nc sa scap src ka kcap ts ks tl st) (hk0 : K2 w0 w ca ea) (hts : ts = pre ++ (Tk.ref n :: rest)) (hi : pre.length = i) (hs : s ≤ src.length) (hlin : Lin nc X (Tk.ref n :: rest)) (ho : Ord nc X s st) (hR : mt src tl (Tk.ref n :: rest) s st = R)
    (hby : ∀ z, z ∈ src → 0 ≤ z ∧ z ≤ 255) (hlen : src.length ≤ 1048576) (htl : ts.length ≤ 1048576) (hnc : nc ≤ 1048576) (ih : MIh B mb ca ea nc sa scap src ka kcap ts ks tl i)
    (hK : ∀ a' w' s' i', i < i' → i' ≤ ts.length → MFr mb s' i' a' → MRel w0 B mb ca ea nc sa scap src ka kcap ts ks tl R w' s' i' → K a' w') (f : Nat → Value) :
    mBody.wp Tryf.prog (Exit.then K (MQ w0 B mb ca ea nc sa scap src ka kcap ts ks tl R)) { tmps := #[.pointer (some ⟨mb, 0, none⟩), .int .i64 (s : Int), .int .i64 (i : Int), f 3, f 4, f 5, f 6, f 7, f 8, f 9, f 10, f 11, f 12, f 13, f 14, f 15, f 16, f 17, f 18, f 19, f 20, f 21, f 22, f 23, f 24, f 25, f 26, f 27, f 28, f 29, f 30, f 31, f 32, f 33, f 34, f 35, f 36, f 37, f 38, f 39, f 40, f 41, f 42, f 43, f 44, f 45, f 46, f 47, f 48, f 49, f 50, f 51, f 52, f 53, f 54, f 55, f 56, f 57, f 58, f 59, f 60, f 61, f 62, f 63, f 64, f 65, f 66, f 67, f 68, f 69, f 70, f 71, f 72, f 73, f 74, f 75, f 76, f 77, f 78, f 79, f 80, f 81, f 82, f 83, f 84, f 85, f 86, f 87, f 88, f 89, f 90, f 91, f 92, f 93, f 94, f 95, f 96, f 97, f 98, f 99, f 100, f 101, f 102, f 103, f 104, f 105, f 106, f 107, f 108, f 109, f 110, f 111, f 112, f 113, f 114, f 115, f 116, f 117, f 118, f 119, f 120, f 121, f 122, f 123, f 124, f 125, f 126, f 127, f 128, f 129, f 130, f 131, f 132, f 133, f 134, f 135, f 136, f 137, f 138, f 139, f 140, f 141, f 142, f 143, f 144, f 145, f 146, f 147, f 148, f 149, f 150, f 151, f 152, f 153, f 154, f 155, f 156, f 157, f 158, f 159, f 160, f 161, f 162, f 163, f 164, f 165, f 166, f 167, f 168, f 169, f 170, f 171, f 172, f 173, f 174, f 175, f 176, f 177, f 178, f 179, f 180, f 181, f 182, f 183, f 184, f 185, f 186, f 187, f 188, f 189, f 190, f 191, f 192, f 193, f 194, f 195, f 196, f 197, f 198, f 199, f 200, f 201, f 202, f 203, f 204, f 205, f 206, f 207, f 208, f 209, f 210, f 211, f 212, f 213, f 214, f 215, f 216, f 217, f 218, f 219, f 220, f 221, f 222, f 223, f 224, f 225, f 226, f 227, f 228, f 229, f 230, f 231, f 232, f 233, f 234, f 235, f 236, f 237, f 238, f 239, f 240, f 241, f 242, f 243, f 244, f 245, f 246, f 247, f 248, f 249, f 250, f 251, f 252, f 253, f 254, f 255, f 256, f 257, f 258, f 259, f 260, f 261, f 262, f 263, f 264, f 265, f 266, f 267, f 268, f 269, f 270, f 271, f 272, f 273, f 274, f 275, f 276, f 277, f 278, f 279, f 280, f 281, f 282, f 283, f 284, f 285, f 286, f 287, f 288, f 289, f 290, f 291, f 292, f 293, f 294, f 295, f 296, f 297, f 298, f 299, f 300, f 301, f 302, f 303, f 304, f 305, f 306, f 307, f 308, f 309, f 310, f 311, f 312, f 313, f 314, f 315, f 316, f 317, f 318, f 319, f 320, f 321, f 322], defers := [] } w := by
  have hil : i < ts.length := by rw [hts, ← hi]; simp
  have hti : ts[i]? = some (Tk.ref n) := by rw [hts, ← hi, List.getElem?_append_right (Nat.le_refl _), Nat.sub_self]; rfl
  have hts2 : ts = (pre ++ [Tk.ref n]) ++ rest := by rw [hts]; simp
  have hi2 : (pre ++ [Tk.ref n]).length = i + 1 := by rw [List.length_append, hi]; rfl
  obtain ⟨kb, ys, rfl, hkc, hke, htk, hcell⟩ := hm.tok hti
  have htk0 := htk
  have hili : (i : Int) < (ts.length : Int) := by omega
  have km0 := blk_cell hm.blk 0 _ rfl
  have km1 := blk_cell hm.blk 1 _ rfl
  cases htk
  have c0 := hcell 0 _ rfl
  have c6 := hcell 6 _ rfl
  have c7 := hcell 7 _ rfl
  rw [Nat.add_zero] at c0
  have HM := Lib.hid hm
  have HK0 := Lib.hid hk0
  have HTS := Lib.hid hts2
  have HI2 := Lib.hid hi2
  have HLIN := Lib.hid hlin
  have HO := Lib.hid ho
  have HR := Lib.hid hR
  have HBY := Lib.hid hby
  have HTI := Lib.hid hti
  have IH := Lib.hid ih
  have HK := Lib.hid hK
  have HHI := Lib.hid hi
  clear hm hk0 hts hts2 hi hi2 hlin ho hR hby hti ih hK hcell htk0
  conv => arg 2; whnf
  have hnc1 := HLIN.out.1
  have hord := HO.out.c n hnc1
  obtain ⟨av, hav⟩ : ∃ av, st.1.getD n 0 = av := ⟨_, rfl⟩
  obtain ⟨L, hL⟩ : ∃ L, st.2.getD n 0 = av + L := ⟨st.2.getD n 0 - av, by omega⟩
  have hn1 : n ≤ nc := HLIN.out.2.1
  have HAV := Lib.hid hav
  have HLL := Lib.hid hL
  rw [hav, hL] at hord
  have haL : av + L ≤ s := hord.2.2
  have HR1 : Hid ((if s + L ≤ src.length ∧ ∀ j, j < L → byteAt src (av + j) = byteAt src (s + j) then mt src tl rest (s + L) st else (none, st)) = R) := Lib.hid (by
    rw [← HR.out]
    conv => rhs; rw [mt, hav, hL, show av + L - av = L by omega])
  clear hord hav hL
  have hni : (n : Int) < (nc : Int) + 1 := by omega
  have hni2 : (n : Int) < ((nc + 1 : Nat) : Int) := by omega
  clear c7
  have km2 := blk_cell HM.out.blk 2 _ rfl
  have km3 := blk_cell HM.out.blk 3 _ rfl
  have cc := HM.out.cs (n := n) (by omega)
  have ce := HM.out.es (n := n) (by omega)
  rw [HAV.out] at cc
  rw [HLL.out] at ce
  go_upto_region 67 with (fail)
  go_quiet (fail)
  generalize hwd : World.drewN w _ = wd
  have HMd : Hid (MM wd B mb ca ea nc sa scap src (some ⟨kb, 0, none⟩) kcap ts ks tl st) := by subst hwd; exact Lib.hid (HM.out.drewN _)
  have HKd : Hid (K2 w0 wd ca ea) := by subst hwd; exact Lib.hid (HK0.out.drewN _)
  clear hwd km0 km1 km2 km3 c0 c6 cc ce
  have km3 := blk_cell HMd.out.blk 3 _ rfl
  obtain ⟨ysx, htkx, hcellx⟩ := HMd.out.tk HTI.out
  cases htkx
  have c6 := hcellx 6 _ rfl
  have ce := HMd.out.es (n := n) (by omega)
  rw [HLL.out] at ce
  clear hcellx
  have wsub : IntKind.i64.wrap (((av + L : Nat) : Int) - (av : Int)) = (L : Int) := by rw [IntWalk.i64_in _ (by omega)]; omega
  go_upto_region 68 with (fail)
  go_quiet (fail)
  generalize hwe : World.drewN wd _ = we
  have HMe : Hid (MM we B mb ca ea nc sa scap src (some ⟨kb, 0, none⟩) kcap ts ks tl st) := by subst hwe; exact Lib.hid (HMd.out.drewN _)
  have HKe : Hid (K2 w0 we ca ea) := by subst hwe; exact Lib.hid (HKd.out.drewN _)
  clear hwe km3 c6 ce
  have km0 := blk_cell HMe.out.blk 0 _ rfl
  rw [show (av : Int) + (L : Int) - (av : Int) = (L : Int) by omega]
  clear wsub HM HK0 HMd HKd
  by_cases hfit : s + L ≤ src.length
  · have tb : decide ((src.length : Int) - (s : Int) < (L : Int)) = false := decide_eq_false (by omega)
    go_wp2_with fail
    clear km0
    go_loopg [16] L (fun g v16 wr => ∃ j, g = L - j ∧ j ≤ L ∧ v16 = .int .i64 (j : Int) ∧ Hid (∀ x, x < j → byteAt src (av + x) = byteAt src (s + x)) ∧ Hid (MM wr B mb ca ea nc sa scap src (some ⟨kb, 0, none⟩) kcap ts ks tl st) ∧ Hid (K2 w0 wr ca ea))
    case atStart => exact ⟨0, rfl, Nat.zero_le _, rfl, Lib.hid (fun x hx => by omega), HMe, HKe⟩
    case round =>
      obtain ⟨j, rfl, hj, rfl, HA, HMr, HKr⟩ := hrel
      have km0 := blk_cell HMr.out.blk 0 _ rfl
      by_cases hlt : j < L
      · have tl1 : decide ((j : Int) < (L : Int)) = true := decide_eq_true (by omega)
        obtain ⟨sb, so, rfl, hsc⟩ := HMr.out.srcR (by omega)
        obtain ⟨y, hy⟩ : ∃ y, src.getD (av + j) 0 = y := ⟨_, rfl⟩
        obtain ⟨z, hz⟩ : ∃ z, src.getD (s + j) 0 = z := ⟨_, rfl⟩
        have hcy := hsc (av + j) (by omega)
        have hcz := hsc (s + j) (by omega)
        rw [hy] at hcy
        rw [hz] at hcz
        have HY : Hid (byteAt src (av + j) = y) := Lib.hid ((byteAt_lt (by omega)).trans hy)
        have HZ : Hid (byteAt src (s + j) = z) := Lib.hid ((byteAt_lt (by omega)).trans hz)
        have g1 : (av : Int) + (j : Int) < (src.length : Int) := by omega
        have g2 : (s : Int) + (j : Int) < (src.length : Int) := by omega
        have g3 : (0 : Int) ≤ (av : Int) + (j : Int) := by omega
        have g4 : (0 : Int) ≤ (s : Int) + (j : Int) := by omega
        have g5 : IntKind.i64.wrap ((av : Int) + (j : Int)) = (av : Int) + (j : Int) := by rw [IntWalk.i64_in _ (by omega)]
        have g6 : IntKind.i64.wrap ((s : Int) + (j : Int)) = (s : Int) + (j : Int) := by rw [IntWalk.i64_in _ (by omega)]
        have g7 : ((av : Int) + (j : Int)).toNat = av + j := by omega
        have g8 : ((s : Int) + (j : Int)).toNat = s + j := by omega
        clear hsc hy hz
        by_cases hq : y = z
        · have tq : (y != z) = false := by simpa using hq
          have HQ := Lib.hid hq
          clear hq
          go_wp2_with fail
          go_quiet (fail)
          generalize hwd : World.drewN wr _ = wd
          have HMx : Hid (MM wd B mb ca ea nc (some ⟨sb, so, none⟩) scap src (some ⟨kb, 0, none⟩) kcap ts ks tl st) := by subst hwd; exact Lib.hid (HMr.out.drewN _)
          have HKx : Hid (K2 w0 wd ca ea) := by subst hwd; exact Lib.hid (HKr.out.drewN _)
          clear hwd g5 g6 g7 g8
          go_wp2_with fail
          go_roundg (L - (j + 1))
          case measure => omega
          case rel => exact ⟨j + 1, rfl, by omega, rfl, Lib.hid (fun x hx => by
            rcases Nat.lt_or_ge x j with h | h
            · exact HA.out x h
            · obtain rfl : x = j := by omega
              rw [HY.out, HZ.out, HQ.out]), HMx, HKx⟩
        · have tq : (y != z) = true := by simpa using hq
          have HQ := Lib.hid hq
          clear hq
          go_wp2_with fail
          go_quiet (fail)
          generalize hwd : World.drewN wr _ = wd
          have HMx : Hid (MM wd B mb ca ea nc (some ⟨sb, so, none⟩) scap src (some ⟨kb, 0, none⟩) kcap ts ks tl st) := by subst hwd; exact Lib.hid (HMr.out.drewN _)
          have HKx : Hid (K2 w0 wd ca ea) := by subst hwd; exact Lib.hid (HKr.out.drewN _)
          clear hwd g5 g6 g7 g8
          have HR2 : Hid (((none, st) : Rs) = R) := Lib.hid (by rw [← HR1.out, if_neg (fun h => HQ.out (by rw [← HY.out, ← HZ.out]; exact h.2 j hlt))])
          go_wp2_with fail
          rw [← HR2.out]
          exact ⟨rfl, rfl, HMx.out, HKx.out⟩
      · obtain rfl : j = L := by omega
        have tl1 : decide ((j : Int) < (j : Int)) = false := decide_eq_false (by omega)
        have HR2 : Hid (mt src tl rest (s + j) st = R) := Lib.hid (by rw [← HR1.out, if_pos ⟨hfit, HA.out⟩])
        go_wp2_with fail
        exact HK.out _ _ (s + j) (i + 1) (by omega) (by omega) (mfr_mk (by omega) (by omega) rfl rfl rfl rfl rfl) ⟨pre ++ [Tk.ref n], rest, X, st, HMr.out, HKr.out, HTS.out, HI2.out, by omega, HLIN.out.2.2, HO.out.mono (by omega), HR2.out⟩
  · have tb : decide ((src.length : Int) - (s : Int) < (L : Int)) = true := decide_eq_true (by omega)
    have HR2 : Hid (((none, st) : Rs) = R) := Lib.hid (by rw [← HR1.out, if_neg (fun h => hfit h.1)])
    go_wp2_with fail
    rw [← HR2.out]
    exact ⟨rfl, rfl, HMe.out, HKe.out⟩




set_option maxHeartbeats 4000000 in
set_option maxRecDepth 1000000 in
theorem mm_brc {w0 w : World} {B mb ca ea nc : Nat} {sa : Option Addr} {scap : Nat} {src : List Int} {ka : Option Addr} {kcap : Nat} {ts : List Tk} {ks : List Value} {tl : Bool} {R : Rs} {st : St} {s i : Nat} {pre rest : List Tk} {X : Cx} {K : Act → World → Prop} {x y : Int} 
    (hm : MM w B mb ca ea nc sa scap src ka kcap ts ks tl st) (hk0 : K2 w0 w ca ea) (hts : ts = pre ++ (Tk.brc x y :: rest)) (hi : pre.length = i) (hs : s ≤ src.length) (hlin : Lin nc X (Tk.brc x y :: rest)) (ho : Ord nc X s st) (hR : mt src tl (Tk.brc x y :: rest) s st = R)
    (hby : ∀ z, z ∈ src → 0 ≤ z ∧ z ≤ 255) (hlen : src.length ≤ 1048576) (htl : ts.length ≤ 1048576) (hnc : nc ≤ 1048576) (ih : MIh B mb ca ea nc sa scap src ka kcap ts ks tl i)
    (hK : ∀ a' w' s' i', i < i' → i' ≤ ts.length → MFr mb s' i' a' → MRel w0 B mb ca ea nc sa scap src ka kcap ts ks tl R w' s' i' → K a' w') (f : Nat → Value) :
    mBody.wp Tryf.prog (Exit.then K (MQ w0 B mb ca ea nc sa scap src ka kcap ts ks tl R)) { tmps := #[.pointer (some ⟨mb, 0, none⟩), .int .i64 (s : Int), .int .i64 (i : Int), f 3, f 4, f 5, f 6, f 7, f 8, f 9, f 10, f 11, f 12, f 13, f 14, f 15, f 16, f 17, f 18, f 19, f 20, f 21, f 22, f 23, f 24, f 25, f 26, f 27, f 28, f 29, f 30, f 31, f 32, f 33, f 34, f 35, f 36, f 37, f 38, f 39, f 40, f 41, f 42, f 43, f 44, f 45, f 46, f 47, f 48, f 49, f 50, f 51, f 52, f 53, f 54, f 55, f 56, f 57, f 58, f 59, f 60, f 61, f 62, f 63, f 64, f 65, f 66, f 67, f 68, f 69, f 70, f 71, f 72, f 73, f 74, f 75, f 76, f 77, f 78, f 79, f 80, f 81, f 82, f 83, f 84, f 85, f 86, f 87, f 88, f 89, f 90, f 91, f 92, f 93, f 94, f 95, f 96, f 97, f 98, f 99, f 100, f 101, f 102, f 103, f 104, f 105, f 106, f 107, f 108, f 109, f 110, f 111, f 112, f 113, f 114, f 115, f 116, f 117, f 118, f 119, f 120, f 121, f 122, f 123, f 124, f 125, f 126, f 127, f 128, f 129, f 130, f 131, f 132, f 133, f 134, f 135, f 136, f 137, f 138, f 139, f 140, f 141, f 142, f 143, f 144, f 145, f 146, f 147, f 148, f 149, f 150, f 151, f 152, f 153, f 154, f 155, f 156, f 157, f 158, f 159, f 160, f 161, f 162, f 163, f 164, f 165, f 166, f 167, f 168, f 169, f 170, f 171, f 172, f 173, f 174, f 175, f 176, f 177, f 178, f 179, f 180, f 181, f 182, f 183, f 184, f 185, f 186, f 187, f 188, f 189, f 190, f 191, f 192, f 193, f 194, f 195, f 196, f 197, f 198, f 199, f 200, f 201, f 202, f 203, f 204, f 205, f 206, f 207, f 208, f 209, f 210, f 211, f 212, f 213, f 214, f 215, f 216, f 217, f 218, f 219, f 220, f 221, f 222, f 223, f 224, f 225, f 226, f 227, f 228, f 229, f 230, f 231, f 232, f 233, f 234, f 235, f 236, f 237, f 238, f 239, f 240, f 241, f 242, f 243, f 244, f 245, f 246, f 247, f 248, f 249, f 250, f 251, f 252, f 253, f 254, f 255, f 256, f 257, f 258, f 259, f 260, f 261, f 262, f 263, f 264, f 265, f 266, f 267, f 268, f 269, f 270, f 271, f 272, f 273, f 274, f 275, f 276, f 277, f 278, f 279, f 280, f 281, f 282, f 283, f 284, f 285, f 286, f 287, f 288, f 289, f 290, f 291, f 292, f 293, f 294, f 295, f 296, f 297, f 298, f 299, f 300, f 301, f 302, f 303, f 304, f 305, f 306, f 307, f 308, f 309, f 310, f 311, f 312, f 313, f 314, f 315, f 316, f 317, f 318, f 319, f 320, f 321, f 322], defers := [] } w := by
  have hil : i < ts.length := by rw [hts, ← hi]; simp
  have hti : ts[i]? = some (Tk.brc x y) := by rw [hts, ← hi, List.getElem?_append_right (Nat.le_refl _), Nat.sub_self]; rfl
  have hts2 : ts = (pre ++ [Tk.brc x y]) ++ rest := by rw [hts]; simp
  have hi2 : (pre ++ [Tk.brc x y]).length = i + 1 := by rw [List.length_append, hi]; rfl
  obtain ⟨kb, ys, rfl, hkc, hke, htk, hcell⟩ := hm.tok hti
  have htk0 := htk
  have hili : (i : Int) < (ts.length : Int) := by omega
  have km0 := blk_cell hm.blk 0 _ rfl
  have km1 := blk_cell hm.blk 1 _ rfl
  cases htk
  have c0 := hcell 0 _ rfl
  have c6 := hcell 6 _ rfl
  have c7 := hcell 7 _ rfl
  rw [Nat.add_zero] at c0
  have HM := Lib.hid hm
  have HK0 := Lib.hid hk0
  have HTS := Lib.hid hts2
  have HI2 := Lib.hid hi2
  have HLIN := Lib.hid hlin
  have HO := Lib.hid ho
  have HR := Lib.hid hR
  have HBY := Lib.hid hby
  have HTI := Lib.hid hti
  have IH := Lib.hid ih
  have HK := Lib.hid hK
  have HHI := Lib.hid hi
  clear hm hk0 hts hts2 hi hi2 hlin ho hR hby hti ih hK hcell htk0
  conv => arg 2; whnf
  have HR1 : Hid ((if s < src.length ∧ byteAt src s = x then
      match braceRun src x y (s + 1) 1 with
      | none => (none, st)
      | some s' => mt src tl rest s' st
    else (none, st)) = R) := Lib.hid (by
    rw [← HR.out]
    conv => rhs; rw [mt]
    rfl)
  clear HR c7
  by_cases hlt : s < src.length
  · obtain ⟨sb, so, rfl, hsc⟩ := HM.out.srcR (by omega)
    obtain ⟨z, hz⟩ : ∃ z, src.getD s 0 = z := ⟨_, rfl⟩
    have hcz := hsc s hlt
    have hzb := getD_byte HBY.out s
    rw [hz] at hcz hzb
    have hz0 := hzb.1
    have hz1 := hzb.2
    have wz : IntKind.i64.wrap z = z := by rw [IntWalk.i64_in _ (by omega)]
    have HZ : Hid (byteAt src s = z) := Lib.hid ((byteAt_lt hlt).trans hz)
    have hsi : (s : Int) < (src.length : Int) := by omega
    have tg : decide ((src.length : Int) ≤ (s : Int)) = false := decide_eq_false (by omega)
    have tgn : decide (src.length ≤ s) = false := decide_eq_false (by omega)
    clear hsc hz hzb
    by_cases hq : z = x
    · have tq : (z != x) = false := by simpa using hq
      have HQ := Lib.hid hq
      clear hq
      obtain ⟨res, hres⟩ : ∃ res, braceRun src x y (s + 1) 1 = res := ⟨_, rfl⟩
      have HR2 : Hid (brcR res st (fun s' => mt src tl rest s' st) = R) := Lib.hid (by rw [← HR1.out, if_pos ⟨hlt, HZ.out.trans HQ.out⟩, ← hres]; rfl)
      have HRES := Lib.hid hres
      clear hres HR1
      go_upto_region 4 with (fail)
      go_quiet (fail)
      generalize hwd : World.drewN w _ = wd
      have HMwd : Hid (MM wd B mb ca ea nc (some ⟨sb, so, none⟩) scap src (some ⟨kb, 0, none⟩) kcap ts ks tl st) := by subst hwd; exact Lib.hid (HM.out.drewN _)
      have HKwd : Hid (K2 w0 wd ca ea) := by subst hwd; exact Lib.hid (HK0.out.drewN _)
      clear hwd
      clear km0 km1 c0 c6 hcz wz
      have km0 := blk_cell HMwd.out.blk 0 _ rfl
      go_wp2_with fail
      clear km0
      go_loopg [17, 18, 19, 20] (src.length - (s + 1)) (fun g v17 v18 v19 v20 wr => ∃ (j : Nat) (ct : Int), g = src.length - j ∧ j ≤ src.length ∧ s + 1 ≤ j ∧ v17 = .int .i64 ct ∧ v18 = .int .i64 (-1) ∧ v19 = .int .i64 (j : Int) ∧ 1 ≤ ct ∧ ct ≤ 1 + (j : Int) ∧ (x = y → ct = 1) ∧ Hid (braceRun src x y j ct = res) ∧ Hid (MM wr B mb ca ea nc (some ⟨sb, so, none⟩) scap src (some ⟨kb, 0, none⟩) kcap ts ks tl st) ∧ Hid (K2 w0 wr ca ea))
      case atStart => exact ⟨s + 1, 1, rfl, by omega, by omega, rfl, rfl, by first | rfl | (congr 1; omega), by omega, by omega, fun _ => rfl, HRES, HMwd, HKwd⟩
      case round =>
        obtain ⟨j, ct, rfl, hj, hsj, rfl, rfl, rfl, hc1, hc2, hxy, HX, HMr, HKr⟩ := hrel
        have km0 := blk_cell HMr.out.blk 0 _ rfl
        have HXY := Lib.hid hxy
        clear hxy
        by_cases hjl : j < src.length
        · obtain ⟨sb', so', ea', hsc⟩ := HMr.out.srcR (by omega)
          injection ea' with ea'
          injection ea' with ea1 ea2
          subst ea1 ea2
          obtain ⟨u, hu⟩ : ∃ u, src.getD j 0 = u := ⟨_, rfl⟩
          have hcz := hsc j hjl
          have hub := getD_byte HBY.out j
          rw [hu] at hcz hub
          have hu0 := hub.1
          have hu1 := hub.2
          have wu : IntKind.i64.wrap u = u := by rw [IntWalk.i64_in _ (by omega)]
          have HU : Hid (byteAt src j = u) := Lib.hid ((byteAt_lt hjl).trans hu)
          have hji : (j : Int) < (src.length : Int) := by omega
          have tj : decide ((j : Int) < (src.length : Int)) = true := decide_eq_true hji
          clear hsc hu hub
          obtain ⟨ysx, htkx, hcellx⟩ := HMr.out.tk HTI.out
          cases htkx
          have c6 := hcellx 6 _ rfl
          have c7 := hcellx 7 _ rfl
          clear hcellx
          by_cases hy : u = y
          · have ty : (u == y) = true := by simpa using hy
            have HY := Lib.hid hy
            clear hy
            by_cases hone : ct = 1
            · subst hone
              have HRN : Hid (res = some (j + 1)) := Lib.hid (HX.out.symm.trans (brace_done hjl HU.out (by rw [if_pos HY.out]; omega)))
              have tneg : decide ((j : Int) < 0) = false := decide_eq_false (by omega)
              have HR3 : Hid (mt src tl rest (j + 1) st = R) := Lib.hid (by rw [← HR2.out, HRN.out]; rfl)
              go_wp2_with fail
              exact HK.out _ _ (j + 1) (i + 1) (by omega) (by omega) (mfr_mk (by omega) (by omega) rfl rfl rfl rfl rfl) ⟨pre ++ [Tk.brc x y], rest, X, st, HMr.out, HKr.out, HTS.out, HI2.out, by omega, HLIN.out, HO.out.mono (by omega), HR3.out⟩
            · have t0 : (ct - 1 == 0) = false := beq_eq_false_iff_ne.2 (by omega)
              have hnx : ¬ u = x := fun e => hone (HXY.out (e.symm.trans HY.out))
              have HX2 : Hid (braceRun src x y (j + 1) (ct - 1) = res) := Lib.hid ((brace_on hjl HU.out (c1 := ct - 1) (by rw [if_pos HY.out]) (by omega) (by rw [if_neg hnx])).symm.trans HX.out)
              have hxy2 : x = y → False := fun e => hnx (HY.out.trans e.symm)
              have HXY2 := Lib.hid hxy2
              clear hnx hxy2
              go_wp2_with fail
              go_roundg (src.length - (j + 1))
              case measure => omega
              case rel => exact ⟨j + 1, ct - 1, rfl, by omega, by omega, by first | rfl | (congr 1; omega), rfl, by first | rfl | (congr 1; omega), by omega, by omega, fun e => (HXY2.out e).elim, HX2, HMr, HKr⟩
          · have ty : (u == y) = false := by simpa using hy
            have HY := Lib.hid hy
            clear hy
            by_cases hx : u = x
            · have tx : (u == x) = true := by simpa using hx
              have HX2 : Hid (braceRun src x y (j + 1) (ct + 1) = res) := Lib.hid ((brace_on hjl HU.out (c1 := ct) (by rw [if_neg HY.out]) (by omega) (by rw [if_pos hx])).symm.trans HX.out)
              have hxy2 : x = y → False := fun e => HY.out (hx.trans e)
              have HXY2 := Lib.hid hxy2
              clear hx hxy2
              go_wp2_with fail
              go_roundg (src.length - (j + 1))
              case measure => omega
              case rel => exact ⟨j + 1, ct + 1, rfl, by omega, by omega, by first | rfl | (congr 1; omega), rfl, by first | rfl | (congr 1; omega), by omega, by omega, fun e => (HXY2.out e).elim, HX2, HMr, HKr⟩
            · have tx : (u == x) = false := by simpa using hx
              have HX2 : Hid (braceRun src x y (j + 1) ct = res) := Lib.hid ((brace_on hjl HU.out (c1 := ct) (by rw [if_neg HY.out]) (by omega) (by rw [if_neg hx])).symm.trans HX.out)
              clear hx
              go_wp2_with fail
              go_roundg (src.length - (j + 1))
              case measure => omega
              case rel => exact ⟨j + 1, ct, rfl, by omega, by omega, by first | rfl | (congr 1; omega), rfl, by first | rfl | (congr 1; omega), by omega, by omega, HXY.out, HX2, HMr, HKr⟩
        · obtain rfl : j = src.length := by omega
          have tj : decide ((src.length : Int) < (src.length : Int)) = false := decide_eq_false (by omega)
          have HRN : Hid (res = none) := Lib.hid (HX.out.symm.trans (brace_end (Nat.le_refl _)))
          have HR3 : Hid (((none, st) : Rs) = R) := Lib.hid (by rw [← HR2.out, HRN.out]; rfl)
          go_wp2_with fail
          rw [← HR3.out]
          exact ⟨rfl, rfl, HMr.out, HKr.out⟩
    · have tq : (z != x) = true := by simpa using hq
      have HR2 : Hid (((none, st) : Rs) = R) := Lib.hid (by rw [← HR1.out, if_neg (fun h => hq (HZ.out.symm.trans h.2))])
      clear hq
      go_upto_region 4 with (fail)
      go_quiet (fail)
      generalize hwd : World.drewN w _ = wd
      have HMwd : Hid (MM wd B mb ca ea nc (some ⟨sb, so, none⟩) scap src (some ⟨kb, 0, none⟩) kcap ts ks tl st) := by subst hwd; exact Lib.hid (HM.out.drewN _)
      have HKwd : Hid (K2 w0 wd ca ea) := by subst hwd; exact Lib.hid (HK0.out.drewN _)
      clear hwd
      go_wp2_with fail
      rw [← HR2.out]
      exact ⟨rfl, rfl, HMwd.out, HKwd.out⟩
  · have tg : decide ((src.length : Int) ≤ (s : Int)) = true := decide_eq_true (by omega)
    have HR2 : Hid (((none, st) : Rs) = R) := Lib.hid (by rw [← HR1.out, if_neg (fun h => hlt h.1)])
    go_upto_region 4 with (fail)
    go_quiet (fail)
    generalize hwd : World.drewN w _ = wd
    have HMwd : Hid (MM wd B mb ca ea nc sa scap src (some ⟨kb, 0, none⟩) kcap ts ks tl st) := by subst hwd; exact Lib.hid (HM.out.drewN _)
    have HKwd : Hid (K2 w0 wd ca ea) := by subst hwd; exact Lib.hid (HK0.out.drewN _)
    clear hwd
    go_wp2_with fail
    rw [← HR2.out]
    exact ⟨rfl, rfl, HMwd.out, HKwd.out⟩



end Go.Proofs.YtcfhhcjcnafcjaaFmt
