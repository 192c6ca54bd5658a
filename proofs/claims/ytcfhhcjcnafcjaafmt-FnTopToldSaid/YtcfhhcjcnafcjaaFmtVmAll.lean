/-
  Passes of recursiveVM from its label, an instruction each. Conditions as each statement says.
-/
import Derived.Test.YtcfhhcjcnafcjaaFmtVmDefs
import Derived.BigQuiet
import Derived.BigGuardPart
namespace Go.Proofs.YtcfhhcjcnafcjaaFmt
open Go.RowKit
set_option linter.unusedVariables false
set_option linter.unusedSimpArgs false


set_option maxHeartbeats 4000000 in
set_option maxRecDepth 1000000 in
theorem vm_mat {w0 w : World} {m : Nat} {ao0 ao : Option Addr} {cap : Nat} {us : List Int} {sao : Option Addr} {scap : Nat} {zs : List Int} {iao : Option Addr} {icap : Nat} {I : List Ins} {ys : List Value} {rc d pc sp nn : Nat} {r : Bool × Nat × List Int} {J : Act → World → Prop}
    (he : VEnv w (CX m ao) sao zs iao icap I ys) (hs0 : 0 < zs.length → ∀ x, sao = some x → x.block < w0.heap.size) (hmd : MD w m ao cap us) (hm0 : Moved w0 w m ao0 ao) (hsp : sp ≤ zs.length) (hcp : zs.length ≤ scap) (hrc : rc + d ≤ 1000000)
    (hJ : True)
    (hi : I[pc]? = some (.mat)) (hr : r = (true, sp, us)) (f : Nat → Value) :
    vmRest.wp Tryf.prog (Exit.jump 0 J (VQ w0 m ao0 r)) { tmps := #[.slice sao zs.length scap, .slice iao I.length icap, .int .i64 pc, .int .i64 sp, .int .i64 rc, f 5, f 6, f 7, f 8, f 9, f 10, f 11, f 12, f 13, f 14, .pointer (some ⟨m, 0, none⟩), f 16, f 17, f 18, f 19, f 20, f 21, f 22, f 23, f 24, f 25, f 26, f 27, f 28, f 29, f 30, f 31, f 32, f 33, f 34, f 35, f 36, f 37, f 38, f 39, f 40, f 41, f 42, f 43, f 44, f 45, f 46, f 47, f 48, f 49, f 50, f 51, f 52, f 53, f 54, f 55, f 56, f 57, f 58, f 59, f 60, f 61, f 62, f 63, f 64, f 65, f 66, f 67, f 68, f 69, f 70, f 71, f 72, f 73, f 74, f 75, f 76, f 77, f 78, f 79, f 80, f 81, f 82, f 83, f 84, f 85, f 86, f 87, f 88, f 89, f 90, f 91, f 92, f 93, f 94, f 95, f 96, f 97, f 98, f 99, f 100, f 101, f 102, f 103, f 104, f 105, f 106, f 107, f 108, f 109, f 110, f 111, f 112, f 113, f 114, f 115, f 116, f 117, f 118, f 119, f 120, f 121, f 122, f 123, f 124, f 125, f 126, f 127, f 128, f 129, f 130, f 131, f 132, f 133, f 134, f 135, f 136, f 137, f 138, f 139, f 140, f 141, f 142, f 143, f 144, f 145, f 146, f 147, f 148, f 149, f 150, f 151, f 152, f 153, f 154, f 155, f 156, f 157, f 158, f 159, f 160, f 161, f 162, f 163, f 164, f 165, f 166, f 167, f 168, f 169, f 170, f 171, f 172, f 173, f 174, f 175, f 176, f 177, f 178, f 179, f 180, f 181, f 182, f 183, f 184, f 185, f 186, f 187, f 188, f 189, f 190, f 191, f 192, f 193, f 194, f 195, f 196, f 197, f 198, f 199, f 200, f 201, f 202, f 203, f 204, f 205, f 206, f 207, f 208, f 209, f 210, f 211, f 212, f 213, f 214, f 215, f 216, f 217, f 218, f 219, f 220, f 221, f 222, f 223, f 224, f 225, f 226, f 227, f 228, f 229, f 230, f 231, f 232, f 233, f 234, f 235, f 236, f 237, f 238, f 239, f 240, f 241, f 242, f 243, f 244, f 245, f 246, f 247, f 248, f 249, f 250, f 251, f 252, f 253, f 254, f 255, f 256], defers := [] } w := by
  obtain ⟨ig, xs, rfl, hins, hpc, hmx, c0, c1, c2, c3⟩ := he.ins hi
  have hpci : (pc : Int) < (I.length : Int) := by omega
  have hlen := he.len
  cases hins with
  | mat =>
  simp only [List.getElem?_cons_zero, List.getElem?_cons_succ] at c0 c1 c2 c3
  subst hr
  have hsl : 0 < zs.length → ∀ x : Addr, sao = some x → x.block < w.heap.size := fun h0 x hx => Nat.lt_of_lt_of_le (hs0 h0 x hx) hm0.size
  have HM1 := Lib.hid ((Moved.refl w m ao).alloc (.cells #[.int .i64 1, .nilIface, .int .i64 (-1), .int .i64 (-1)] 123))
  have HE1 := Lib.hid (he.moved HM1.out hsl)
  have HMD1 := Lib.hid (hmd.allocO (.cells #[.int .i64 1, .nilIface, .int .i64 (-1), .int .i64 (-1)] 123))
  have HMM1 := Lib.hid (hm0.trans HM1.out)
  have HBK := Lib.hid (blk_new w (.cells #[.int .i64 1, .nilIface, .int .i64 (-1), .int .i64 (-1)] 123))
  have HSL : Hid (0 < zs.length → ∀ x : Addr, sao = some x → x.block < (w.alloc (.cells #[.int .i64 1, .nilIface, .int .i64 (-1), .int .i64 (-1)] 123)).heap.size) := Lib.hid (fun h0 x hx => Nat.lt_of_lt_of_le (hsl h0 x hx) HM1.out.size)
  have HJ := Lib.hid hJ
  have HS0 := Lib.hid hs0
  have HI := Lib.hid hi
  clear he hs0 hmd hm0 hJ hsl HM1 hi
  conv => arg 2; whnf
  go_wp2_with fail
  exact ⟨rfl, rfl, rfl, rfl, _, _, HMD1.out, HMM1.out⟩



set_option maxHeartbeats 4000000 in
set_option maxRecDepth 1000000 in
theorem vm_tmat {w0 w : World} {m : Nat} {ao0 ao : Option Addr} {cap : Nat} {us : List Int} {sao : Option Addr} {scap : Nat} {zs : List Int} {iao : Option Addr} {icap : Nat} {I : List Ins} {ys : List Value} {rc d pc sp nn : Nat} {r : Bool × Nat × List Int} {J : Act → World → Prop}
    (he : VEnv w (CX m ao) sao zs iao icap I ys) (hs0 : 0 < zs.length → ∀ x, sao = some x → x.block < w0.heap.size) (hmd : MD w m ao cap us) (hm0 : Moved w0 w m ao0 ao) (hsp : sp ≤ zs.length) (hcp : zs.length ≤ scap) (hrc : rc + d ≤ 1000000)
    (hJ : True)
    (hi : I[pc]? = some (.tmat)) (hr : r = (decide (zs.length ≤ sp), sp, us)) (f : Nat → Value) :
    vmRest.wp Tryf.prog (Exit.jump 0 J (VQ w0 m ao0 r)) { tmps := #[.slice sao zs.length scap, .slice iao I.length icap, .int .i64 pc, .int .i64 sp, .int .i64 rc, f 5, f 6, f 7, f 8, f 9, f 10, f 11, f 12, f 13, f 14, .pointer (some ⟨m, 0, none⟩), f 16, f 17, f 18, f 19, f 20, f 21, f 22, f 23, f 24, f 25, f 26, f 27, f 28, f 29, f 30, f 31, f 32, f 33, f 34, f 35, f 36, f 37, f 38, f 39, f 40, f 41, f 42, f 43, f 44, f 45, f 46, f 47, f 48, f 49, f 50, f 51, f 52, f 53, f 54, f 55, f 56, f 57, f 58, f 59, f 60, f 61, f 62, f 63, f 64, f 65, f 66, f 67, f 68, f 69, f 70, f 71, f 72, f 73, f 74, f 75, f 76, f 77, f 78, f 79, f 80, f 81, f 82, f 83, f 84, f 85, f 86, f 87, f 88, f 89, f 90, f 91, f 92, f 93, f 94, f 95, f 96, f 97, f 98, f 99, f 100, f 101, f 102, f 103, f 104, f 105, f 106, f 107, f 108, f 109, f 110, f 111, f 112, f 113, f 114, f 115, f 116, f 117, f 118, f 119, f 120, f 121, f 122, f 123, f 124, f 125, f 126, f 127, f 128, f 129, f 130, f 131, f 132, f 133, f 134, f 135, f 136, f 137, f 138, f 139, f 140, f 141, f 142, f 143, f 144, f 145, f 146, f 147, f 148, f 149, f 150, f 151, f 152, f 153, f 154, f 155, f 156, f 157, f 158, f 159, f 160, f 161, f 162, f 163, f 164, f 165, f 166, f 167, f 168, f 169, f 170, f 171, f 172, f 173, f 174, f 175, f 176, f 177, f 178, f 179, f 180, f 181, f 182, f 183, f 184, f 185, f 186, f 187, f 188, f 189, f 190, f 191, f 192, f 193, f 194, f 195, f 196, f 197, f 198, f 199, f 200, f 201, f 202, f 203, f 204, f 205, f 206, f 207, f 208, f 209, f 210, f 211, f 212, f 213, f 214, f 215, f 216, f 217, f 218, f 219, f 220, f 221, f 222, f 223, f 224, f 225, f 226, f 227, f 228, f 229, f 230, f 231, f 232, f 233, f 234, f 235, f 236, f 237, f 238, f 239, f 240, f 241, f 242, f 243, f 244, f 245, f 246, f 247, f 248, f 249, f 250, f 251, f 252, f 253, f 254, f 255, f 256], defers := [] } w := by
  obtain ⟨ig, xs, rfl, hins, hpc, hmx, c0, c1, c2, c3⟩ := he.ins hi
  have hpci : (pc : Int) < (I.length : Int) := by omega
  have hlen := he.len
  cases hins with
  | tmat =>
  simp only [List.getElem?_cons_zero, List.getElem?_cons_succ] at c0 c1 c2 c3
  subst hr
  have hsl : 0 < zs.length → ∀ x : Addr, sao = some x → x.block < w.heap.size := fun h0 x hx => Nat.lt_of_lt_of_le (hs0 h0 x hx) hm0.size
  have HM1 := Lib.hid ((Moved.refl w m ao).alloc (.cells #[.int .i64 2, .nilIface, .int .i64 (-1), .int .i64 (-1)] 123))
  have HE1 := Lib.hid (he.moved HM1.out hsl)
  have HMD1 := Lib.hid (hmd.allocO (.cells #[.int .i64 2, .nilIface, .int .i64 (-1), .int .i64 (-1)] 123))
  have HMM1 := Lib.hid (hm0.trans HM1.out)
  have HBK := Lib.hid (blk_new w (.cells #[.int .i64 2, .nilIface, .int .i64 (-1), .int .i64 (-1)] 123))
  have HSL : Hid (0 < zs.length → ∀ x : Addr, sao = some x → x.block < (w.alloc (.cells #[.int .i64 2, .nilIface, .int .i64 (-1), .int .i64 (-1)] 123)).heap.size) := Lib.hid (fun h0 x hx => Nat.lt_of_lt_of_le (hsl h0 x hx) HM1.out.size)
  have HJ := Lib.hid hJ
  have HS0 := Lib.hid hs0
  have HI := Lib.hid hi
  clear he hs0 hmd hm0 hJ hsl HM1 hi
  conv => arg 2; whnf
  go_wp2_with fail
  exact ⟨rfl, by simp, rfl, rfl, _, _, HMD1.out, HMM1.out⟩



set_option maxHeartbeats 4000000 in
set_option maxRecDepth 1000000 in
theorem vm_jmp {w0 w : World} {m : Nat} {ao0 ao : Option Addr} {cap : Nat} {us : List Int} {sao : Option Addr} {scap : Nat} {zs : List Int} {iao : Option Addr} {icap : Nat} {I : List Ins} {ys : List Value} {rc d pc sp nn : Nat} {r : Bool × Nat × List Int} {J : Act → World → Prop}
    (he : VEnv w (CX m ao) sao zs iao icap I ys) (hs0 : 0 < zs.length → ∀ x, sao = some x → x.block < w0.heap.size) (hmd : MD w m ao cap us) (hm0 : Moved w0 w m ao0 ao) (hsp : sp ≤ zs.length) (hcp : zs.length ≤ scap) (hrc : rc + d ≤ 1000000)
    (hJ : ∀ a' w', VJ w0 m ao0 sao scap zs iao icap I ys rc d r nn a' w' → J a' w')
    {ja : Nat} (hi : I[pc]? = some (.jmp ja)) (hr : VRun zs I d nn ja sp us r) (f : Nat → Value) :
    vmRest.wp Tryf.prog (Exit.jump 0 J (VQ w0 m ao0 r)) { tmps := #[.slice sao zs.length scap, .slice iao I.length icap, .int .i64 pc, .int .i64 sp, .int .i64 rc, f 5, f 6, f 7, f 8, f 9, f 10, f 11, f 12, f 13, f 14, .pointer (some ⟨m, 0, none⟩), f 16, f 17, f 18, f 19, f 20, f 21, f 22, f 23, f 24, f 25, f 26, f 27, f 28, f 29, f 30, f 31, f 32, f 33, f 34, f 35, f 36, f 37, f 38, f 39, f 40, f 41, f 42, f 43, f 44, f 45, f 46, f 47, f 48, f 49, f 50, f 51, f 52, f 53, f 54, f 55, f 56, f 57, f 58, f 59, f 60, f 61, f 62, f 63, f 64, f 65, f 66, f 67, f 68, f 69, f 70, f 71, f 72, f 73, f 74, f 75, f 76, f 77, f 78, f 79, f 80, f 81, f 82, f 83, f 84, f 85, f 86, f 87, f 88, f 89, f 90, f 91, f 92, f 93, f 94, f 95, f 96, f 97, f 98, f 99, f 100, f 101, f 102, f 103, f 104, f 105, f 106, f 107, f 108, f 109, f 110, f 111, f 112, f 113, f 114, f 115, f 116, f 117, f 118, f 119, f 120, f 121, f 122, f 123, f 124, f 125, f 126, f 127, f 128, f 129, f 130, f 131, f 132, f 133, f 134, f 135, f 136, f 137, f 138, f 139, f 140, f 141, f 142, f 143, f 144, f 145, f 146, f 147, f 148, f 149, f 150, f 151, f 152, f 153, f 154, f 155, f 156, f 157, f 158, f 159, f 160, f 161, f 162, f 163, f 164, f 165, f 166, f 167, f 168, f 169, f 170, f 171, f 172, f 173, f 174, f 175, f 176, f 177, f 178, f 179, f 180, f 181, f 182, f 183, f 184, f 185, f 186, f 187, f 188, f 189, f 190, f 191, f 192, f 193, f 194, f 195, f 196, f 197, f 198, f 199, f 200, f 201, f 202, f 203, f 204, f 205, f 206, f 207, f 208, f 209, f 210, f 211, f 212, f 213, f 214, f 215, f 216, f 217, f 218, f 219, f 220, f 221, f 222, f 223, f 224, f 225, f 226, f 227, f 228, f 229, f 230, f 231, f 232, f 233, f 234, f 235, f 236, f 237, f 238, f 239, f 240, f 241, f 242, f 243, f 244, f 245, f 246, f 247, f 248, f 249, f 250, f 251, f 252, f 253, f 254, f 255, f 256], defers := [] } w := by
  obtain ⟨ig, xs, rfl, hins, hpc, hmx, c0, c1, c2, c3⟩ := he.ins hi
  have hpci : (pc : Int) < (I.length : Int) := by omega
  have hlen := he.len
  cases hins with
  | jmp =>
  simp only [List.getElem?_cons_zero, List.getElem?_cons_succ] at c0 c1 c2 c3
  have HR := Lib.hid hr
  clear hr
  have hsl : 0 < zs.length → ∀ x : Addr, sao = some x → x.block < w.heap.size := fun h0 x hx => Nat.lt_of_lt_of_le (hs0 h0 x hx) hm0.size
  have HM1 := Lib.hid ((Moved.refl w m ao).alloc (.cells #[.int .i64 3, .nilIface, .int .i64 ja, .int .i64 (-1)] 123))
  have HE1 := Lib.hid (he.moved HM1.out hsl)
  have HMD1 := Lib.hid (hmd.allocO (.cells #[.int .i64 3, .nilIface, .int .i64 ja, .int .i64 (-1)] 123))
  have HMM1 := Lib.hid (hm0.trans HM1.out)
  have HBK := Lib.hid (blk_new w (.cells #[.int .i64 3, .nilIface, .int .i64 ja, .int .i64 (-1)] 123))
  have HSL : Hid (0 < zs.length → ∀ x : Addr, sao = some x → x.block < (w.alloc (.cells #[.int .i64 3, .nilIface, .int .i64 ja, .int .i64 (-1)] 123)).heap.size) := Lib.hid (fun h0 x hx => Nat.lt_of_lt_of_le (hsl h0 x hx) HM1.out.size)
  have HJ := Lib.hid hJ
  have HS0 := Lib.hid hs0
  have HI := Lib.hid hi
  clear he hs0 hmd hm0 hJ hsl HM1 hi
  conv => arg 2; whnf
  go_wp2_with fail
  go_step3
  refine ⟨rfl, ?_⟩
  exact HJ.out _ _ (vj_mk rfl rfl rfl rfl rfl rfl rfl rfl rfl rfl HE1.out HMD1.out HMM1.out HR.out hsp hcp)



set_option maxHeartbeats 4000000 in
set_option maxRecDepth 1000000 in
theorem vm_psave {w0 w : World} {m : Nat} {ao0 ao : Option Addr} {cap : Nat} {us : List Int} {sao : Option Addr} {scap : Nat} {zs : List Int} {iao : Option Addr} {icap : Nat} {I : List Ins} {ys : List Value} {rc d pc sp nn : Nat} {r : Bool × Nat × List Int} {J : Act → World → Prop}
    (he : VEnv w (CX m ao) sao zs iao icap I ys) (hs0 : 0 < zs.length → ∀ x, sao = some x → x.block < w0.heap.size) (hmd : MD w m ao cap us) (hm0 : Moved w0 w m ao0 ao) (hsp : sp ≤ zs.length) (hcp : zs.length ≤ scap) (hrc : rc + d ≤ 1000000)
    (hJ : ∀ a' w', VJ w0 m ao0 sao scap zs iao icap I ys rc d r nn a' w' → J a' w')
    {pk : Nat} (hi : I[pc]? = some (.psave pk)) (hr : VRun zs I d nn (pc + 1) sp (((ext us (pk + 2)).set pk (posW (sp + 1))).set (pk + 1) (posW (sp + 1))) r) (f : Nat → Value) :
    vmRest.wp Tryf.prog (Exit.jump 0 J (VQ w0 m ao0 r)) { tmps := #[.slice sao zs.length scap, .slice iao I.length icap, .int .i64 pc, .int .i64 sp, .int .i64 rc, f 5, f 6, f 7, f 8, f 9, f 10, f 11, f 12, f 13, f 14, .pointer (some ⟨m, 0, none⟩), f 16, f 17, f 18, f 19, f 20, f 21, f 22, f 23, f 24, f 25, f 26, f 27, f 28, f 29, f 30, f 31, f 32, f 33, f 34, f 35, f 36, f 37, f 38, f 39, f 40, f 41, f 42, f 43, f 44, f 45, f 46, f 47, f 48, f 49, f 50, f 51, f 52, f 53, f 54, f 55, f 56, f 57, f 58, f 59, f 60, f 61, f 62, f 63, f 64, f 65, f 66, f 67, f 68, f 69, f 70, f 71, f 72, f 73, f 74, f 75, f 76, f 77, f 78, f 79, f 80, f 81, f 82, f 83, f 84, f 85, f 86, f 87, f 88, f 89, f 90, f 91, f 92, f 93, f 94, f 95, f 96, f 97, f 98, f 99, f 100, f 101, f 102, f 103, f 104, f 105, f 106, f 107, f 108, f 109, f 110, f 111, f 112, f 113, f 114, f 115, f 116, f 117, f 118, f 119, f 120, f 121, f 122, f 123, f 124, f 125, f 126, f 127, f 128, f 129, f 130, f 131, f 132, f 133, f 134, f 135, f 136, f 137, f 138, f 139, f 140, f 141, f 142, f 143, f 144, f 145, f 146, f 147, f 148, f 149, f 150, f 151, f 152, f 153, f 154, f 155, f 156, f 157, f 158, f 159, f 160, f 161, f 162, f 163, f 164, f 165, f 166, f 167, f 168, f 169, f 170, f 171, f 172, f 173, f 174, f 175, f 176, f 177, f 178, f 179, f 180, f 181, f 182, f 183, f 184, f 185, f 186, f 187, f 188, f 189, f 190, f 191, f 192, f 193, f 194, f 195, f 196, f 197, f 198, f 199, f 200, f 201, f 202, f 203, f 204, f 205, f 206, f 207, f 208, f 209, f 210, f 211, f 212, f 213, f 214, f 215, f 216, f 217, f 218, f 219, f 220, f 221, f 222, f 223, f 224, f 225, f 226, f 227, f 228, f 229, f 230, f 231, f 232, f 233, f 234, f 235, f 236, f 237, f 238, f 239, f 240, f 241, f 242, f 243, f 244, f 245, f 246, f 247, f 248, f 249, f 250, f 251, f 252, f 253, f 254, f 255, f 256], defers := [] } w := by
  obtain ⟨ig, xs, rfl, hins, hpc, hmx, c0, c1, c2, c3⟩ := he.ins hi
  have hpci : (pc : Int) < (I.length : Int) := by omega
  have hlen := he.len
  cases hins with
  | psave =>
  simp only [List.getElem?_cons_zero, List.getElem?_cons_succ] at c0 c1 c2 c3
  have hk : pk ≤ 1073741820 := he.slots _ (List.mem_of_getElem? hi)
  have HR := Lib.hid hr
  clear hr
  have hsl : 0 < zs.length → ∀ x : Addr, sao = some x → x.block < w.heap.size := fun h0 x hx => Nat.lt_of_lt_of_le (hs0 h0 x hx) hm0.size
  have HM1 := Lib.hid ((Moved.refl w m ao).alloc (.cells #[.int .i64 6, .nilIface, .int .i64 pk, .int .i64 (-1)] 123))
  have HE1 := Lib.hid (he.moved HM1.out hsl)
  have HMD1 := Lib.hid (hmd.allocO (.cells #[.int .i64 6, .nilIface, .int .i64 pk, .int .i64 (-1)] 123))
  have HMM1 := Lib.hid (hm0.trans HM1.out)
  have HBK := Lib.hid (blk_new w (.cells #[.int .i64 6, .nilIface, .int .i64 pk, .int .i64 (-1)] 123))
  have HSL : Hid (0 < zs.length → ∀ x : Addr, sao = some x → x.block < (w.alloc (.cells #[.int .i64 6, .nilIface, .int .i64 pk, .int .i64 (-1)] 123)).heap.size) := Lib.hid (fun h0 x hx => Nat.lt_of_lt_of_le (hsl h0 x hx) HM1.out.size)
  have HJ := Lib.hid hJ
  have HS0 := Lib.hid hs0
  have HI := Lib.hid hi
  clear he hs0 hmd hm0 hJ hsl HM1 hi
  conv => arg 2; whnf
  go_wp2_with fail
  refine (addPos_any (s := pk) ((sp : Int) + 1) HMD1.out (by omega)).mono ?_
  rintro e w2 ⟨rfl, ao2, cap2, hmd2, hm2⟩
  have HE2 := Lib.hid (HE1.out.moved hm2 HSL.out)
  have HMD2 := Lib.hid hmd2
  have HMM2 := Lib.hid (HMM1.out.trans hm2)
  clear hmd2 hm2
  go_wp2_with fail
  go_step3
  refine ⟨rfl, ?_⟩
  exact HJ.out _ _ (vj_mk (by omega) rfl rfl rfl rfl rfl rfl rfl rfl rfl HE2.out HMD2.out HMM2.out HR.out hsp hcp)



set_option maxHeartbeats 4000000 in
set_option maxRecDepth 1000000 in
theorem vm_saveYes {w0 w : World} {m : Nat} {ao0 ao : Option Addr} {cap : Nat} {us : List Int} {sao : Option Addr} {scap : Nat} {zs : List Int} {iao : Option Addr} {icap : Nat} {I : List Ins} {ys : List Value} {rc d pc sp nn : Nat} {r : Bool × Nat × List Int} {J : Act → World → Prop}
    (he : VEnv w (CX m ao) sao zs iao icap I ys) (hs0 : 0 < zs.length → ∀ x, sao = some x → x.block < w0.heap.size) (hmd : MD w m ao cap us) (hm0 : Moved w0 w m ao0 ao) (hsp : sp ≤ zs.length) (hcp : zs.length ≤ scap) (hrc : rc + (d + 1) ≤ 1000000)
    (hJ : True)
    {sk sp' : Nat} {us' : List Int} (hi : I[pc]? = some (.save sk)) (hr : VRun zs I d nn (pc + 1) sp ((ext us (sk + 1)).set sk (capW sp)) (true, sp', us')) (hrr : r = (true, sp', us')) (ih : VSpec d) (f : Nat → Value) :
    vmRest.wp Tryf.prog (Exit.jump 0 J (VQ w0 m ao0 r)) { tmps := #[.slice sao zs.length scap, .slice iao I.length icap, .int .i64 pc, .int .i64 sp, .int .i64 rc, f 5, f 6, f 7, f 8, f 9, f 10, f 11, f 12, f 13, f 14, .pointer (some ⟨m, 0, none⟩), f 16, f 17, f 18, f 19, f 20, f 21, f 22, f 23, f 24, f 25, f 26, f 27, f 28, f 29, f 30, f 31, f 32, f 33, f 34, f 35, f 36, f 37, f 38, f 39, f 40, f 41, f 42, f 43, f 44, f 45, f 46, f 47, f 48, f 49, f 50, f 51, f 52, f 53, f 54, f 55, f 56, f 57, f 58, f 59, f 60, f 61, f 62, f 63, f 64, f 65, f 66, f 67, f 68, f 69, f 70, f 71, f 72, f 73, f 74, f 75, f 76, f 77, f 78, f 79, f 80, f 81, f 82, f 83, f 84, f 85, f 86, f 87, f 88, f 89, f 90, f 91, f 92, f 93, f 94, f 95, f 96, f 97, f 98, f 99, f 100, f 101, f 102, f 103, f 104, f 105, f 106, f 107, f 108, f 109, f 110, f 111, f 112, f 113, f 114, f 115, f 116, f 117, f 118, f 119, f 120, f 121, f 122, f 123, f 124, f 125, f 126, f 127, f 128, f 129, f 130, f 131, f 132, f 133, f 134, f 135, f 136, f 137, f 138, f 139, f 140, f 141, f 142, f 143, f 144, f 145, f 146, f 147, f 148, f 149, f 150, f 151, f 152, f 153, f 154, f 155, f 156, f 157, f 158, f 159, f 160, f 161, f 162, f 163, f 164, f 165, f 166, f 167, f 168, f 169, f 170, f 171, f 172, f 173, f 174, f 175, f 176, f 177, f 178, f 179, f 180, f 181, f 182, f 183, f 184, f 185, f 186, f 187, f 188, f 189, f 190, f 191, f 192, f 193, f 194, f 195, f 196, f 197, f 198, f 199, f 200, f 201, f 202, f 203, f 204, f 205, f 206, f 207, f 208, f 209, f 210, f 211, f 212, f 213, f 214, f 215, f 216, f 217, f 218, f 219, f 220, f 221, f 222, f 223, f 224, f 225, f 226, f 227, f 228, f 229, f 230, f 231, f 232, f 233, f 234, f 235, f 236, f 237, f 238, f 239, f 240, f 241, f 242, f 243, f 244, f 245, f 246, f 247, f 248, f 249, f 250, f 251, f 252, f 253, f 254, f 255, f 256], defers := [] } w := by
  obtain ⟨ig, xs, rfl, hins, hpc, hmx, c0, c1, c2, c3⟩ := he.ins hi
  have hpci : (pc : Int) < (I.length : Int) := by omega
  have hlen := he.len
  cases hins with
  | save =>
  simp only [List.getElem?_cons_zero, List.getElem?_cons_succ] at c0 c1 c2 c3
  have hk : sk ≤ 1073741820 := he.slots _ (List.mem_of_getElem? hi)
  have HR := Lib.hid hr
  have IH := Lib.hid ih
  have hbi : ¬ CX m ao w.heap.size := fun h => by
    rcases h with h | h
    · have := hmd.lt; omega
    · have := (hmd.row' _ h).2; omega
  have HBI := Lib.hid hbi
  have hw : 0 ≤ (ext us (sk + 1)).getD sk 0 ∧ (ext us (sk + 1)).getD sk 0 < 4294967296 := by rw [getD_ext]; exact hmd.word sk
  have HW := Lib.hid hw
  clear hr ih hbi hw
  subst hrr
  have hsl : 0 < zs.length → ∀ x : Addr, sao = some x → x.block < w.heap.size := fun h0 x hx => Nat.lt_of_lt_of_le (hs0 h0 x hx) hm0.size
  have HM1 := Lib.hid ((Moved.refl w m ao).alloc (.cells #[.int .i64 5, .nilIface, .int .i64 sk, .int .i64 (-1)] 123))
  have HE1 := Lib.hid (he.moved HM1.out hsl)
  have HMD1 := Lib.hid (hmd.allocO (.cells #[.int .i64 5, .nilIface, .int .i64 sk, .int .i64 (-1)] 123))
  have HMM1 := Lib.hid (hm0.trans HM1.out)
  have HBK := Lib.hid (blk_new w (.cells #[.int .i64 5, .nilIface, .int .i64 sk, .int .i64 (-1)] 123))
  have HSL : Hid (0 < zs.length → ∀ x : Addr, sao = some x → x.block < (w.alloc (.cells #[.int .i64 5, .nilIface, .int .i64 sk, .int .i64 (-1)] 123)).heap.size) := Lib.hid (fun h0 x hx => Nat.lt_of_lt_of_le (hsl h0 x hx) HM1.out.size)
  have HJ := Lib.hid hJ
  have HS0 := Lib.hid hs0
  have HI := Lib.hid hi
  clear he hs0 hmd hm0 hJ hsl HM1 hi
  conv => arg 2; whnf
  have kb1 : (w.alloc (.cells #[.int .i64 5, .nilIface, .int .i64 sk, .int .i64 (-1)] 123)).cell? ⟨w.heap.size, 2, none⟩ = some (.int .i64 sk) := blk_cell HBK.out 2 _ rfl
  go_wp2_with fail
  refine (setCap_any (s := sk) (sp : Int) HMD1.out (by omega)).mono ?_
  rintro e w2 ⟨rfl, ao2, cap2, hmd2, hm2⟩
  have HEP := Lib.hid (HE1.out.moved hm2 HSL.out)
  have HMDP := Lib.hid hmd2
  have HMMP := Lib.hid (HMM1.out.trans hm2)
  have HSLP : Hid (0 < zs.length → ∀ x, sao = some x → x.block < w2.heap.size) := Lib.hid (fun h0 x hx => Nat.lt_of_lt_of_le (HSL.out h0 x hx) hm2.size)
  have HBK2 := Lib.hid (hm2.keeps _ _ HBI.out HBK.out)
  have HBI2 := Lib.hid (hm2.notX (blk_lt HBK.out) HBI.out)
  generalize hu : (ext us (sk + 1)).getD sk 0 = u at *
  clear hmd2 hm2 kb1 hu
  go_wp2_with fail
  have HN := Lib.hid ((Moved.refl w2 m ao2).alloc (.cells #[.pointer (some ⟨m, 0, none⟩)] 36))
  refine (IH.out.use (g := w2.heap.size) (pc := pc + 1) (by omega) (HEP.out.moved HN.out HSLP.out) (fun h0 x hx => Nat.lt_of_lt_of_le (HSLP.out h0 x hx) HN.out.size) (HMDP.out.allocO (.cells #[.pointer (some ⟨m, 0, none⟩)] 36)) (blk_cell (blk_new _ _) 0 _ rfl) HR.out hsp hcp (by omega)).mono ?_
  rintro e w4 ⟨ao4, cap4, rfl, hmd4, hm4⟩
  have HMD4 := Lib.hid hmd4
  have HMM4 := Lib.hid (HMMP.out.trans (HN.out.trans hm4))
  have HBK4 := Lib.hid (hm4.keeps _ _ (HN.out.notX (blk_lt HBK2.out) HBI2.out) (HN.out.keeps _ _ HBI2.out HBK2.out))
  clear hmd4 hm4 HN
  go_wp2_with fail
  exact ⟨rfl, rfl, rfl, rfl, _, _, HMD4.out, HMM4.out⟩



set_option maxHeartbeats 4000000 in
set_option maxRecDepth 1000000 in
theorem vm_saveNo {w0 w : World} {m : Nat} {ao0 ao : Option Addr} {cap : Nat} {us : List Int} {sao : Option Addr} {scap : Nat} {zs : List Int} {iao : Option Addr} {icap : Nat} {I : List Ins} {ys : List Value} {rc d pc sp nn : Nat} {r : Bool × Nat × List Int} {J : Act → World → Prop}
    (he : VEnv w (CX m ao) sao zs iao icap I ys) (hs0 : 0 < zs.length → ∀ x, sao = some x → x.block < w0.heap.size) (hmd : MD w m ao cap us) (hm0 : Moved w0 w m ao0 ao) (hsp : sp ≤ zs.length) (hcp : zs.length ≤ scap) (hrc : rc + (d + 1) ≤ 1000000)
    (hJ : True)
    {sk sp' : Nat} {us' : List Int} (hi : I[pc]? = some (.save sk)) (hr : VRun zs I d nn (pc + 1) sp ((ext us (sk + 1)).set sk (capW sp)) (false, sp', us')) (hrr : r = (false, sp, us'.set sk ((ext us (sk + 1)).getD sk 0))) (hkl : sk < us'.length) (ih : VSpec d) (f : Nat → Value) :
    vmRest.wp Tryf.prog (Exit.jump 0 J (VQ w0 m ao0 r)) { tmps := #[.slice sao zs.length scap, .slice iao I.length icap, .int .i64 pc, .int .i64 sp, .int .i64 rc, f 5, f 6, f 7, f 8, f 9, f 10, f 11, f 12, f 13, f 14, .pointer (some ⟨m, 0, none⟩), f 16, f 17, f 18, f 19, f 20, f 21, f 22, f 23, f 24, f 25, f 26, f 27, f 28, f 29, f 30, f 31, f 32, f 33, f 34, f 35, f 36, f 37, f 38, f 39, f 40, f 41, f 42, f 43, f 44, f 45, f 46, f 47, f 48, f 49, f 50, f 51, f 52, f 53, f 54, f 55, f 56, f 57, f 58, f 59, f 60, f 61, f 62, f 63, f 64, f 65, f 66, f 67, f 68, f 69, f 70, f 71, f 72, f 73, f 74, f 75, f 76, f 77, f 78, f 79, f 80, f 81, f 82, f 83, f 84, f 85, f 86, f 87, f 88, f 89, f 90, f 91, f 92, f 93, f 94, f 95, f 96, f 97, f 98, f 99, f 100, f 101, f 102, f 103, f 104, f 105, f 106, f 107, f 108, f 109, f 110, f 111, f 112, f 113, f 114, f 115, f 116, f 117, f 118, f 119, f 120, f 121, f 122, f 123, f 124, f 125, f 126, f 127, f 128, f 129, f 130, f 131, f 132, f 133, f 134, f 135, f 136, f 137, f 138, f 139, f 140, f 141, f 142, f 143, f 144, f 145, f 146, f 147, f 148, f 149, f 150, f 151, f 152, f 153, f 154, f 155, f 156, f 157, f 158, f 159, f 160, f 161, f 162, f 163, f 164, f 165, f 166, f 167, f 168, f 169, f 170, f 171, f 172, f 173, f 174, f 175, f 176, f 177, f 178, f 179, f 180, f 181, f 182, f 183, f 184, f 185, f 186, f 187, f 188, f 189, f 190, f 191, f 192, f 193, f 194, f 195, f 196, f 197, f 198, f 199, f 200, f 201, f 202, f 203, f 204, f 205, f 206, f 207, f 208, f 209, f 210, f 211, f 212, f 213, f 214, f 215, f 216, f 217, f 218, f 219, f 220, f 221, f 222, f 223, f 224, f 225, f 226, f 227, f 228, f 229, f 230, f 231, f 232, f 233, f 234, f 235, f 236, f 237, f 238, f 239, f 240, f 241, f 242, f 243, f 244, f 245, f 246, f 247, f 248, f 249, f 250, f 251, f 252, f 253, f 254, f 255, f 256], defers := [] } w := by
  obtain ⟨ig, xs, rfl, hins, hpc, hmx, c0, c1, c2, c3⟩ := he.ins hi
  have hpci : (pc : Int) < (I.length : Int) := by omega
  have hlen := he.len
  cases hins with
  | save =>
  simp only [List.getElem?_cons_zero, List.getElem?_cons_succ] at c0 c1 c2 c3
  have hk : sk ≤ 1073741820 := he.slots _ (List.mem_of_getElem? hi)
  have HR := Lib.hid hr
  have IH := Lib.hid ih
  have hbi : ¬ CX m ao w.heap.size := fun h => by
    rcases h with h | h
    · have := hmd.lt; omega
    · have := (hmd.row' _ h).2; omega
  have HBI := Lib.hid hbi
  have hw : 0 ≤ (ext us (sk + 1)).getD sk 0 ∧ (ext us (sk + 1)).getD sk 0 < 4294967296 := by rw [getD_ext]; exact hmd.word sk
  have HW := Lib.hid hw
  clear hr ih hbi hw
  subst hrr
  have hsl : 0 < zs.length → ∀ x : Addr, sao = some x → x.block < w.heap.size := fun h0 x hx => Nat.lt_of_lt_of_le (hs0 h0 x hx) hm0.size
  have HM1 := Lib.hid ((Moved.refl w m ao).alloc (.cells #[.int .i64 5, .nilIface, .int .i64 sk, .int .i64 (-1)] 123))
  have HE1 := Lib.hid (he.moved HM1.out hsl)
  have HMD1 := Lib.hid (hmd.allocO (.cells #[.int .i64 5, .nilIface, .int .i64 sk, .int .i64 (-1)] 123))
  have HMM1 := Lib.hid (hm0.trans HM1.out)
  have HBK := Lib.hid (blk_new w (.cells #[.int .i64 5, .nilIface, .int .i64 sk, .int .i64 (-1)] 123))
  have HSL : Hid (0 < zs.length → ∀ x : Addr, sao = some x → x.block < (w.alloc (.cells #[.int .i64 5, .nilIface, .int .i64 sk, .int .i64 (-1)] 123)).heap.size) := Lib.hid (fun h0 x hx => Nat.lt_of_lt_of_le (hsl h0 x hx) HM1.out.size)
  have HJ := Lib.hid hJ
  have HS0 := Lib.hid hs0
  have HI := Lib.hid hi
  clear he hs0 hmd hm0 hJ hsl HM1 hi
  conv => arg 2; whnf
  have kb1 : (w.alloc (.cells #[.int .i64 5, .nilIface, .int .i64 sk, .int .i64 (-1)] 123)).cell? ⟨w.heap.size, 2, none⟩ = some (.int .i64 sk) := blk_cell HBK.out 2 _ rfl
  go_wp2_with fail
  refine (setCap_any (s := sk) (sp : Int) HMD1.out (by omega)).mono ?_
  rintro e w2 ⟨rfl, ao2, cap2, hmd2, hm2⟩
  have HEP := Lib.hid (HE1.out.moved hm2 HSL.out)
  have HMDP := Lib.hid hmd2
  have HMMP := Lib.hid (HMM1.out.trans hm2)
  have HSLP : Hid (0 < zs.length → ∀ x, sao = some x → x.block < w2.heap.size) := Lib.hid (fun h0 x hx => Nat.lt_of_lt_of_le (HSL.out h0 x hx) hm2.size)
  have HBK2 := Lib.hid (hm2.keeps _ _ HBI.out HBK.out)
  have HBI2 := Lib.hid (hm2.notX (blk_lt HBK.out) HBI.out)
  generalize hu : (ext us (sk + 1)).getD sk 0 = u at *
  clear hmd2 hm2 kb1 hu
  go_wp2_with fail
  have HN := Lib.hid ((Moved.refl w2 m ao2).alloc (.cells #[.pointer (some ⟨m, 0, none⟩)] 36))
  refine (IH.out.use (g := w2.heap.size) (pc := pc + 1) (by omega) (HEP.out.moved HN.out HSLP.out) (fun h0 x hx => Nat.lt_of_lt_of_le (HSLP.out h0 x hx) HN.out.size) (HMDP.out.allocO (.cells #[.pointer (some ⟨m, 0, none⟩)] 36)) (blk_cell (blk_new _ _) 0 _ rfl) HR.out hsp hcp (by omega)).mono ?_
  rintro e w4 ⟨ao4, cap4, rfl, hmd4, hm4⟩
  have HMD4 := Lib.hid hmd4
  have HMM4 := Lib.hid (HMMP.out.trans (HN.out.trans hm4))
  have HBK4 := Lib.hid (hm4.keeps _ _ (HN.out.notX (blk_lt HBK2.out) HBI2.out) (HN.out.keeps _ _ HBI2.out HBK2.out))
  clear hmd4 hm4 HN
  have kb4 := blk_cell HBK4.out 2 _ rfl
  go_wp2_with fail
  refine (restCap_any sk u HMD4.out hkl HW.out).mono ?_
  rintro e w5 ⟨rfl, hmd5, hm5⟩
  have HMD5 := Lib.hid hmd5
  have HMM5 := Lib.hid (HMM4.out.trans hm5)
  clear hmd5 hm5
  go_wp2_with fail
  exact ⟨rfl, rfl, rfl, rfl, _, _, HMD5.out, HMM5.out⟩



set_option maxHeartbeats 4000000 in
set_option maxRecDepth 1000000 in
theorem vm_splitA {w0 w : World} {m : Nat} {ao0 ao : Option Addr} {cap : Nat} {us : List Int} {sao : Option Addr} {scap : Nat} {zs : List Int} {iao : Option Addr} {icap : Nat} {I : List Ins} {ys : List Value} {rc d pc sp nn : Nat} {r : Bool × Nat × List Int} {J : Act → World → Prop}
    (he : VEnv w (CX m ao) sao zs iao icap I ys) (hs0 : 0 < zs.length → ∀ x, sao = some x → x.block < w0.heap.size) (hmd : MD w m ao cap us) (hm0 : Moved w0 w m ao0 ao) (hsp : sp ≤ zs.length) (hcp : zs.length ≤ scap) (hrc : rc + (d + 1) ≤ 1000000)
    (hJ : True)
    {ja jb sp' : Nat} {us' : List Int} (hi : I[pc]? = some (.split ja jb)) (hr : VRun zs I d nn ja sp us (true, sp', us')) (hrr : r = (true, sp', us')) (ih : VSpec d) (f : Nat → Value) :
    vmRest.wp Tryf.prog (Exit.jump 0 J (VQ w0 m ao0 r)) { tmps := #[.slice sao zs.length scap, .slice iao I.length icap, .int .i64 pc, .int .i64 sp, .int .i64 rc, f 5, f 6, f 7, f 8, f 9, f 10, f 11, f 12, f 13, f 14, .pointer (some ⟨m, 0, none⟩), f 16, f 17, f 18, f 19, f 20, f 21, f 22, f 23, f 24, f 25, f 26, f 27, f 28, f 29, f 30, f 31, f 32, f 33, f 34, f 35, f 36, f 37, f 38, f 39, f 40, f 41, f 42, f 43, f 44, f 45, f 46, f 47, f 48, f 49, f 50, f 51, f 52, f 53, f 54, f 55, f 56, f 57, f 58, f 59, f 60, f 61, f 62, f 63, f 64, f 65, f 66, f 67, f 68, f 69, f 70, f 71, f 72, f 73, f 74, f 75, f 76, f 77, f 78, f 79, f 80, f 81, f 82, f 83, f 84, f 85, f 86, f 87, f 88, f 89, f 90, f 91, f 92, f 93, f 94, f 95, f 96, f 97, f 98, f 99, f 100, f 101, f 102, f 103, f 104, f 105, f 106, f 107, f 108, f 109, f 110, f 111, f 112, f 113, f 114, f 115, f 116, f 117, f 118, f 119, f 120, f 121, f 122, f 123, f 124, f 125, f 126, f 127, f 128, f 129, f 130, f 131, f 132, f 133, f 134, f 135, f 136, f 137, f 138, f 139, f 140, f 141, f 142, f 143, f 144, f 145, f 146, f 147, f 148, f 149, f 150, f 151, f 152, f 153, f 154, f 155, f 156, f 157, f 158, f 159, f 160, f 161, f 162, f 163, f 164, f 165, f 166, f 167, f 168, f 169, f 170, f 171, f 172, f 173, f 174, f 175, f 176, f 177, f 178, f 179, f 180, f 181, f 182, f 183, f 184, f 185, f 186, f 187, f 188, f 189, f 190, f 191, f 192, f 193, f 194, f 195, f 196, f 197, f 198, f 199, f 200, f 201, f 202, f 203, f 204, f 205, f 206, f 207, f 208, f 209, f 210, f 211, f 212, f 213, f 214, f 215, f 216, f 217, f 218, f 219, f 220, f 221, f 222, f 223, f 224, f 225, f 226, f 227, f 228, f 229, f 230, f 231, f 232, f 233, f 234, f 235, f 236, f 237, f 238, f 239, f 240, f 241, f 242, f 243, f 244, f 245, f 246, f 247, f 248, f 249, f 250, f 251, f 252, f 253, f 254, f 255, f 256], defers := [] } w := by
  obtain ⟨ig, xs, rfl, hins, hpc, hmx, c0, c1, c2, c3⟩ := he.ins hi
  have hpci : (pc : Int) < (I.length : Int) := by omega
  have hlen := he.len
  cases hins with
  | split =>
  simp only [List.getElem?_cons_zero, List.getElem?_cons_succ] at c0 c1 c2 c3
  have HR := Lib.hid hr
  have IH := Lib.hid ih
  have hbi : ¬ CX m ao w.heap.size := fun h => by
    rcases h with h | h
    · have := hmd.lt; omega
    · have := (hmd.row' _ h).2; omega
  have HBI := Lib.hid hbi
  clear hr ih hbi
  subst hrr
  have hsl : 0 < zs.length → ∀ x : Addr, sao = some x → x.block < w.heap.size := fun h0 x hx => Nat.lt_of_lt_of_le (hs0 h0 x hx) hm0.size
  have HM1 := Lib.hid ((Moved.refl w m ao).alloc (.cells #[.int .i64 4, .nilIface, .int .i64 ja, .int .i64 jb] 123))
  have HE1 := Lib.hid (he.moved HM1.out hsl)
  have HMD1 := Lib.hid (hmd.allocO (.cells #[.int .i64 4, .nilIface, .int .i64 ja, .int .i64 jb] 123))
  have HMM1 := Lib.hid (hm0.trans HM1.out)
  have HBK := Lib.hid (blk_new w (.cells #[.int .i64 4, .nilIface, .int .i64 ja, .int .i64 jb] 123))
  have HSL : Hid (0 < zs.length → ∀ x : Addr, sao = some x → x.block < (w.alloc (.cells #[.int .i64 4, .nilIface, .int .i64 ja, .int .i64 jb] 123)).heap.size) := Lib.hid (fun h0 x hx => Nat.lt_of_lt_of_le (hsl h0 x hx) HM1.out.size)
  have HJ := Lib.hid hJ
  have HS0 := Lib.hid hs0
  have HI := Lib.hid hi
  clear he hs0 hmd hm0 hJ hsl HM1 hi
  conv => arg 2; whnf
  have kb1 : (w.alloc (.cells #[.int .i64 4, .nilIface, .int .i64 ja, .int .i64 jb] 123)).cell? ⟨w.heap.size, 2, none⟩ = some (.int .i64 ja) := blk_cell HBK.out 2 _ rfl
  generalize hw1 : w.alloc (.cells #[.int .i64 4, .nilIface, .int .i64 ja, .int .i64 jb] 123) = w1 at *
  have HW1 := Lib.hid hw1
  clear hw1
  go_upto_region 22 with (fail)
  rw [HW1.out]
  go_wp2_with fail
  have HN := Lib.hid ((Moved.refl w1 m ao).alloc (.cells #[.pointer (some ⟨m, 0, none⟩)] 36))
  refine (IH.out.use (g := w1.heap.size) rfl (HE1.out.moved HN.out HSL.out) (fun h0 x hx => Nat.lt_of_lt_of_le (HSL.out h0 x hx) HN.out.size) (HMD1.out.allocO (.cells #[.pointer (some ⟨m, 0, none⟩)] 36)) (blk_cell (blk_new _ _) 0 _ rfl) HR.out hsp hcp (by omega)).mono ?_
  rintro e w4 ⟨ao4, cap4, rfl, hmd4, hm4⟩
  have HMD4 := Lib.hid hmd4
  have HMM4 := Lib.hid (HMM1.out.trans (HN.out.trans hm4))
  have HE4 := Lib.hid ((HE1.out.moved HN.out HSL.out).moved hm4 (fun h0 x hx => Nat.lt_of_lt_of_le (HSL.out h0 x hx) HN.out.size))
  have HBK4 := Lib.hid (hm4.keeps _ _ (HN.out.notX (blk_lt HBK.out) HBI.out) (HN.out.keeps _ _ HBI.out HBK.out))
  clear hmd4 hm4 HN kb1
  go_wp2_with fail
  exact ⟨rfl, rfl, rfl, rfl, _, _, HMD4.out, HMM4.out⟩



set_option maxHeartbeats 4000000 in
set_option maxRecDepth 1000000 in
theorem vm_splitB {w0 w : World} {m : Nat} {ao0 ao : Option Addr} {cap : Nat} {us : List Int} {sao : Option Addr} {scap : Nat} {zs : List Int} {iao : Option Addr} {icap : Nat} {I : List Ins} {ys : List Value} {rc d pc sp nn : Nat} {r : Bool × Nat × List Int} {J : Act → World → Prop}
    (he : VEnv w (CX m ao) sao zs iao icap I ys) (hs0 : 0 < zs.length → ∀ x, sao = some x → x.block < w0.heap.size) (hmd : MD w m ao cap us) (hm0 : Moved w0 w m ao0 ao) (hsp : sp ≤ zs.length) (hcp : zs.length ≤ scap) (hrc : rc + (d + 1) ≤ 1000000)
    (hJ : ∀ a' w', VJ w0 m ao0 sao scap zs iao icap I ys rc (d + 1) r nn a' w' → J a' w')
    {ja jb sp' nm : Nat} {us' : List Int} (hi : I[pc]? = some (.split ja jb)) (hr : VRun zs I d nm ja sp us (false, sp', us')) (hr2 : VRun zs I (d + 1) nn jb sp us' r) (ih : VSpec d) (f : Nat → Value) :
    vmRest.wp Tryf.prog (Exit.jump 0 J (VQ w0 m ao0 r)) { tmps := #[.slice sao zs.length scap, .slice iao I.length icap, .int .i64 pc, .int .i64 sp, .int .i64 rc, f 5, f 6, f 7, f 8, f 9, f 10, f 11, f 12, f 13, f 14, .pointer (some ⟨m, 0, none⟩), f 16, f 17, f 18, f 19, f 20, f 21, f 22, f 23, f 24, f 25, f 26, f 27, f 28, f 29, f 30, f 31, f 32, f 33, f 34, f 35, f 36, f 37, f 38, f 39, f 40, f 41, f 42, f 43, f 44, f 45, f 46, f 47, f 48, f 49, f 50, f 51, f 52, f 53, f 54, f 55, f 56, f 57, f 58, f 59, f 60, f 61, f 62, f 63, f 64, f 65, f 66, f 67, f 68, f 69, f 70, f 71, f 72, f 73, f 74, f 75, f 76, f 77, f 78, f 79, f 80, f 81, f 82, f 83, f 84, f 85, f 86, f 87, f 88, f 89, f 90, f 91, f 92, f 93, f 94, f 95, f 96, f 97, f 98, f 99, f 100, f 101, f 102, f 103, f 104, f 105, f 106, f 107, f 108, f 109, f 110, f 111, f 112, f 113, f 114, f 115, f 116, f 117, f 118, f 119, f 120, f 121, f 122, f 123, f 124, f 125, f 126, f 127, f 128, f 129, f 130, f 131, f 132, f 133, f 134, f 135, f 136, f 137, f 138, f 139, f 140, f 141, f 142, f 143, f 144, f 145, f 146, f 147, f 148, f 149, f 150, f 151, f 152, f 153, f 154, f 155, f 156, f 157, f 158, f 159, f 160, f 161, f 162, f 163, f 164, f 165, f 166, f 167, f 168, f 169, f 170, f 171, f 172, f 173, f 174, f 175, f 176, f 177, f 178, f 179, f 180, f 181, f 182, f 183, f 184, f 185, f 186, f 187, f 188, f 189, f 190, f 191, f 192, f 193, f 194, f 195, f 196, f 197, f 198, f 199, f 200, f 201, f 202, f 203, f 204, f 205, f 206, f 207, f 208, f 209, f 210, f 211, f 212, f 213, f 214, f 215, f 216, f 217, f 218, f 219, f 220, f 221, f 222, f 223, f 224, f 225, f 226, f 227, f 228, f 229, f 230, f 231, f 232, f 233, f 234, f 235, f 236, f 237, f 238, f 239, f 240, f 241, f 242, f 243, f 244, f 245, f 246, f 247, f 248, f 249, f 250, f 251, f 252, f 253, f 254, f 255, f 256], defers := [] } w := by
  obtain ⟨ig, xs, rfl, hins, hpc, hmx, c0, c1, c2, c3⟩ := he.ins hi
  have hpci : (pc : Int) < (I.length : Int) := by omega
  have hlen := he.len
  cases hins with
  | split =>
  simp only [List.getElem?_cons_zero, List.getElem?_cons_succ] at c0 c1 c2 c3
  have HR := Lib.hid hr
  have IH := Lib.hid ih
  have hbi : ¬ CX m ao w.heap.size := fun h => by
    rcases h with h | h
    · have := hmd.lt; omega
    · have := (hmd.row' _ h).2; omega
  have HBI := Lib.hid hbi
  clear hr ih hbi
  have HR2 := Lib.hid hr2
  clear hr2
  have hsl : 0 < zs.length → ∀ x : Addr, sao = some x → x.block < w.heap.size := fun h0 x hx => Nat.lt_of_lt_of_le (hs0 h0 x hx) hm0.size
  have HM1 := Lib.hid ((Moved.refl w m ao).alloc (.cells #[.int .i64 4, .nilIface, .int .i64 ja, .int .i64 jb] 123))
  have HE1 := Lib.hid (he.moved HM1.out hsl)
  have HMD1 := Lib.hid (hmd.allocO (.cells #[.int .i64 4, .nilIface, .int .i64 ja, .int .i64 jb] 123))
  have HMM1 := Lib.hid (hm0.trans HM1.out)
  have HBK := Lib.hid (blk_new w (.cells #[.int .i64 4, .nilIface, .int .i64 ja, .int .i64 jb] 123))
  have HSL : Hid (0 < zs.length → ∀ x : Addr, sao = some x → x.block < (w.alloc (.cells #[.int .i64 4, .nilIface, .int .i64 ja, .int .i64 jb] 123)).heap.size) := Lib.hid (fun h0 x hx => Nat.lt_of_lt_of_le (hsl h0 x hx) HM1.out.size)
  have HJ := Lib.hid hJ
  have HS0 := Lib.hid hs0
  have HI := Lib.hid hi
  clear he hs0 hmd hm0 hJ hsl HM1 hi
  conv => arg 2; whnf
  have kb1 : (w.alloc (.cells #[.int .i64 4, .nilIface, .int .i64 ja, .int .i64 jb] 123)).cell? ⟨w.heap.size, 2, none⟩ = some (.int .i64 ja) := blk_cell HBK.out 2 _ rfl
  generalize hw1 : w.alloc (.cells #[.int .i64 4, .nilIface, .int .i64 ja, .int .i64 jb] 123) = w1 at *
  have HW1 := Lib.hid hw1
  clear hw1
  go_upto_region 22 with (fail)
  rw [HW1.out]
  go_wp2_with fail
  have HN := Lib.hid ((Moved.refl w1 m ao).alloc (.cells #[.pointer (some ⟨m, 0, none⟩)] 36))
  refine (IH.out.use (g := w1.heap.size) rfl (HE1.out.moved HN.out HSL.out) (fun h0 x hx => Nat.lt_of_lt_of_le (HSL.out h0 x hx) HN.out.size) (HMD1.out.allocO (.cells #[.pointer (some ⟨m, 0, none⟩)] 36)) (blk_cell (blk_new _ _) 0 _ rfl) HR.out hsp hcp (by omega)).mono ?_
  rintro e w4 ⟨ao4, cap4, rfl, hmd4, hm4⟩
  have HMD4 := Lib.hid hmd4
  have HMM4 := Lib.hid (HMM1.out.trans (HN.out.trans hm4))
  have HE4 := Lib.hid ((HE1.out.moved HN.out HSL.out).moved hm4 (fun h0 x hx => Nat.lt_of_lt_of_le (HSL.out h0 x hx) HN.out.size))
  have HBK4 := Lib.hid (hm4.keeps _ _ (HN.out.notX (blk_lt HBK.out) HBI.out) (HN.out.keeps _ _ HBI.out HBK.out))
  clear hmd4 hm4 HN kb1
  have kb4 := blk_cell HBK4.out 3 _ rfl
  go_wp2_with fail
  go_step3
  refine ⟨rfl, ?_⟩
  exact HJ.out _ _ (vj_mk rfl rfl rfl rfl rfl rfl rfl rfl rfl rfl HE4.out HMD4.out HMM4.out HR2.out hsp hcp)



set_option maxHeartbeats 4000000 in
set_option maxRecDepth 1000000 in
theorem vm_chrNo {w0 w : World} {m : Nat} {ao0 ao : Option Addr} {cap : Nat} {us : List Int} {sao : Option Addr} {scap : Nat} {zs : List Int} {iao : Option Addr} {icap : Nat} {I : List Ins} {ys : List Value} {rc d pc sp nn : Nat} {r : Bool × Nat × List Int} {J : Act → World → Prop}
    (he : VEnv w (CX m ao) sao zs iao icap I ys) (hs0 : 0 < zs.length → ∀ x, sao = some x → x.block < w0.heap.size) (hmd : MD w m ao cap us) (hm0 : Moved w0 w m ao0 ao) (hsp : sp ≤ zs.length) (hcp : zs.length ≤ scap) (hrc : rc + d ≤ 1000000)
    (hJ : True)
    {cc : Cl} (hi : I[pc]? = some (.chr cc)) (hlt : sp < zs.length) (hq : cc.has (byteAt zs sp) = false) (hrr : r = (false, sp, us)) (f : Nat → Value) :
    vmRest.wp Tryf.prog (Exit.jump 0 J (VQ w0 m ao0 r)) { tmps := #[.slice sao zs.length scap, .slice iao I.length icap, .int .i64 pc, .int .i64 sp, .int .i64 rc, f 5, f 6, f 7, f 8, f 9, f 10, f 11, f 12, f 13, f 14, .pointer (some ⟨m, 0, none⟩), f 16, f 17, f 18, f 19, f 20, f 21, f 22, f 23, f 24, f 25, f 26, f 27, f 28, f 29, f 30, f 31, f 32, f 33, f 34, f 35, f 36, f 37, f 38, f 39, f 40, f 41, f 42, f 43, f 44, f 45, f 46, f 47, f 48, f 49, f 50, f 51, f 52, f 53, f 54, f 55, f 56, f 57, f 58, f 59, f 60, f 61, f 62, f 63, f 64, f 65, f 66, f 67, f 68, f 69, f 70, f 71, f 72, f 73, f 74, f 75, f 76, f 77, f 78, f 79, f 80, f 81, f 82, f 83, f 84, f 85, f 86, f 87, f 88, f 89, f 90, f 91, f 92, f 93, f 94, f 95, f 96, f 97, f 98, f 99, f 100, f 101, f 102, f 103, f 104, f 105, f 106, f 107, f 108, f 109, f 110, f 111, f 112, f 113, f 114, f 115, f 116, f 117, f 118, f 119, f 120, f 121, f 122, f 123, f 124, f 125, f 126, f 127, f 128, f 129, f 130, f 131, f 132, f 133, f 134, f 135, f 136, f 137, f 138, f 139, f 140, f 141, f 142, f 143, f 144, f 145, f 146, f 147, f 148, f 149, f 150, f 151, f 152, f 153, f 154, f 155, f 156, f 157, f 158, f 159, f 160, f 161, f 162, f 163, f 164, f 165, f 166, f 167, f 168, f 169, f 170, f 171, f 172, f 173, f 174, f 175, f 176, f 177, f 178, f 179, f 180, f 181, f 182, f 183, f 184, f 185, f 186, f 187, f 188, f 189, f 190, f 191, f 192, f 193, f 194, f 195, f 196, f 197, f 198, f 199, f 200, f 201, f 202, f 203, f 204, f 205, f 206, f 207, f 208, f 209, f 210, f 211, f 212, f 213, f 214, f 215, f 216, f 217, f 218, f 219, f 220, f 221, f 222, f 223, f 224, f 225, f 226, f 227, f 228, f 229, f 230, f 231, f 232, f 233, f 234, f 235, f 236, f 237, f 238, f 239, f 240, f 241, f 242, f 243, f 244, f 245, f 246, f 247, f 248, f 249, f 250, f 251, f 252, f 253, f 254, f 255, f 256], defers := [] } w := by
  obtain ⟨ig, xs, rfl, hins, hpc, hmx, c0, c1, c2, c3⟩ := he.ins hi
  have hpci : (pc : Int) < (I.length : Int) := by omega
  have hlen := he.len
  cases hins with
  | @chr cc v hcl =>
  simp only [List.getElem?_cons_zero, List.getElem?_cons_succ] at c0 c1 c2 c3
  obtain ⟨Tv, pa, fv, rfl, hme, hen, hmc⟩ := hcl.meetsAll
  have HCL := Lib.hid hcl
  have HMC := Lib.hid hmc
  clear hcl hmc
  obtain ⟨sb, so, rfl, hsc⟩ := he.src (by omega)
  obtain ⟨z, hz⟩ : ∃ z, zs.getD sp 0 = z := ⟨_, rfl⟩
  have hzb := getD_byte he.byte sp
  have hcz := hsc sp hlt
  rw [hz] at hzb hcz
  rw [byteAt_lt hlt, hz] at hq
  have hz0 := hzb.1
  have hz1 := hzb.2
  have HQ := Lib.hid hq
  have HCZ := Lib.hid hcz
  clear hsc hz hzb hq hcz
  subst hrr
  have hsl : 0 < zs.length → ∀ x : Addr, (some ⟨sb, so, none⟩) = some x → x.block < w.heap.size := fun h0 x hx => Nat.lt_of_lt_of_le (hs0 h0 x hx) hm0.size
  have HM1 := Lib.hid ((Moved.refl w m ao).alloc (.cells #[.int .i64 0, .iface Tv (.pointer pa), .int .i64 (-1), .int .i64 (-1)] 123))
  have HE1 := Lib.hid (he.moved HM1.out hsl)
  have HMD1 := Lib.hid (hmd.allocO (.cells #[.int .i64 0, .iface Tv (.pointer pa), .int .i64 (-1), .int .i64 (-1)] 123))
  have HMM1 := Lib.hid (hm0.trans HM1.out)
  have HBK := Lib.hid (blk_new w (.cells #[.int .i64 0, .iface Tv (.pointer pa), .int .i64 (-1), .int .i64 (-1)] 123))
  have HSL : Hid (0 < zs.length → ∀ x : Addr, (some ⟨sb, so, none⟩) = some x → x.block < (w.alloc (.cells #[.int .i64 0, .iface Tv (.pointer pa), .int .i64 (-1), .int .i64 (-1)] 123)).heap.size) := Lib.hid (fun h0 x hx => Nat.lt_of_lt_of_le (hsl h0 x hx) HM1.out.size)
  have HJ := Lib.hid hJ
  have HS0 := Lib.hid hs0
  have HI := Lib.hid hi
  clear he hs0 hmd hm0 hJ hsl HM1 hi
  conv => arg 2; whnf
  have HCC : Hid (∀ n : Nat, Calls Tryf.prog fv #[.pointer pa, .int .i64 z] ((w.alloc (.cells #[.int .i64 0, .iface Tv (.pointer pa), .int .i64 (-1), .int .i64 (-1)] 123)).drewN n) fun e' w'' => e' = .returned (.bool false) ∧ w'' = (w.alloc (.cells #[.int .i64 0, .iface Tv (.pointer pa), .int .i64 (-1), .int .i64 (-1)] 123)).drewN n) := Lib.hid (fun n => by
    have h := HMC.out ((w.alloc (.cells #[.int .i64 0, .iface Tv (.pointer pa), .int .i64 (-1), .int .i64 (-1)] 123)).drewN n) (CX m ao) (HCL.out.kept (fun _ o _ ho => blk_drewN (blk_alloc ho _) _) (fun _ _ h => h)) z
    rw [HQ.out] at h
    exact h.mono fun _ _ h => ⟨h.1, h.2.symm⟩)
  have hcz : (w.alloc (.cells #[.int .i64 0, .iface Tv (.pointer pa), .int .i64 (-1), .int .i64 (-1)] 123)).cell? ⟨sb, so + sp, none⟩ = some (.int .u8 z) := (World.cell?_alloc_lt w _ _ (lt_of_cell HCZ.out)).trans HCZ.out
  have tg : decide ((zs.length : Int) ≤ (sp : Int)) = false := decide_eq_false (by omega)
  have hspi : (sp : Int) < (zs.length : Int) := by omega
  have wz : IntKind.i64.wrap z = z := by rw [IntWalk.i64_in _ (by omega)]
  have kb1 : (w.alloc (.cells #[.int .i64 0, .iface Tv (.pointer pa), .int .i64 (-1), .int .i64 (-1)] 123)).cell? ⟨w.heap.size, 1, none⟩ = some (.iface Tv (.pointer pa)) := blk_cell HBK.out 1 _ rfl
  go_upto_region 11 with (fail)
  generalize w.alloc (.cells #[.int .i64 0, .iface Tv (.pointer pa), .int .i64 (-1), .int .i64 (-1)] 123) = w1 at *
  go_quiet ((exact Calls.quiet_of_same (HCC.out _)))
  clear wz
  generalize hwd : World.drewN w1 _ = wd
  have HMDd : Hid (MD wd m ao cap us) := by subst hwd; exact Lib.hid (HMD1.out.drewO _)
  have HMMd : Hid (Moved w0 wd m ao0 ao) := by subst hwd; exact Lib.hid (HMM1.out.drewN _)
  have HEd : Hid (VEnv wd (CX m ao) (some ⟨sb, so, none⟩) zs (some ⟨ig, 0, none⟩) icap I ys) := by subst hwd; exact Lib.hid (HE1.out.moved ((Moved.refl w1 m ao).drewN _) HSL.out)
  clear hwd
  go_wp2_with fail
  exact ⟨rfl, rfl, rfl, rfl, _, _, HMDd.out, HMMd.out⟩



set_option maxHeartbeats 4000000 in
set_option maxRecDepth 1000000 in
theorem vm_chrYes {w0 w : World} {m : Nat} {ao0 ao : Option Addr} {cap : Nat} {us : List Int} {sao : Option Addr} {scap : Nat} {zs : List Int} {iao : Option Addr} {icap : Nat} {I : List Ins} {ys : List Value} {rc d pc sp nn : Nat} {r : Bool × Nat × List Int} {J : Act → World → Prop}
    (he : VEnv w (CX m ao) sao zs iao icap I ys) (hs0 : 0 < zs.length → ∀ x, sao = some x → x.block < w0.heap.size) (hmd : MD w m ao cap us) (hm0 : Moved w0 w m ao0 ao) (hsp : sp ≤ zs.length) (hcp : zs.length ≤ scap) (hrc : rc + d ≤ 1000000)
    (hJ : ∀ a' w', VJ w0 m ao0 sao scap zs iao icap I ys rc d r nn a' w' → J a' w')
    {cc : Cl} (hi : I[pc]? = some (.chr cc)) (hlt : sp < zs.length) (hq : cc.has (byteAt zs sp) = true) (hr : VRun zs I d nn (pc + 1) (sp + 1) us r) (f : Nat → Value) :
    vmRest.wp Tryf.prog (Exit.jump 0 J (VQ w0 m ao0 r)) { tmps := #[.slice sao zs.length scap, .slice iao I.length icap, .int .i64 pc, .int .i64 sp, .int .i64 rc, f 5, f 6, f 7, f 8, f 9, f 10, f 11, f 12, f 13, f 14, .pointer (some ⟨m, 0, none⟩), f 16, f 17, f 18, f 19, f 20, f 21, f 22, f 23, f 24, f 25, f 26, f 27, f 28, f 29, f 30, f 31, f 32, f 33, f 34, f 35, f 36, f 37, f 38, f 39, f 40, f 41, f 42, f 43, f 44, f 45, f 46, f 47, f 48, f 49, f 50, f 51, f 52, f 53, f 54, f 55, f 56, f 57, f 58, f 59, f 60, f 61, f 62, f 63, f 64, f 65, f 66, f 67, f 68, f 69, f 70, f 71, f 72, f 73, f 74, f 75, f 76, f 77, f 78, f 79, f 80, f 81, f 82, f 83, f 84, f 85, f 86, f 87, f 88, f 89, f 90, f 91, f 92, f 93, f 94, f 95, f 96, f 97, f 98, f 99, f 100, f 101, f 102, f 103, f 104, f 105, f 106, f 107, f 108, f 109, f 110, f 111, f 112, f 113, f 114, f 115, f 116, f 117, f 118, f 119, f 120, f 121, f 122, f 123, f 124, f 125, f 126, f 127, f 128, f 129, f 130, f 131, f 132, f 133, f 134, f 135, f 136, f 137, f 138, f 139, f 140, f 141, f 142, f 143, f 144, f 145, f 146, f 147, f 148, f 149, f 150, f 151, f 152, f 153, f 154, f 155, f 156, f 157, f 158, f 159, f 160, f 161, f 162, f 163, f 164, f 165, f 166, f 167, f 168, f 169, f 170, f 171, f 172, f 173, f 174, f 175, f 176, f 177, f 178, f 179, f 180, f 181, f 182, f 183, f 184, f 185, f 186, f 187, f 188, f 189, f 190, f 191, f 192, f 193, f 194, f 195, f 196, f 197, f 198, f 199, f 200, f 201, f 202, f 203, f 204, f 205, f 206, f 207, f 208, f 209, f 210, f 211, f 212, f 213, f 214, f 215, f 216, f 217, f 218, f 219, f 220, f 221, f 222, f 223, f 224, f 225, f 226, f 227, f 228, f 229, f 230, f 231, f 232, f 233, f 234, f 235, f 236, f 237, f 238, f 239, f 240, f 241, f 242, f 243, f 244, f 245, f 246, f 247, f 248, f 249, f 250, f 251, f 252, f 253, f 254, f 255, f 256], defers := [] } w := by
  obtain ⟨ig, xs, rfl, hins, hpc, hmx, c0, c1, c2, c3⟩ := he.ins hi
  have hpci : (pc : Int) < (I.length : Int) := by omega
  have hlen := he.len
  cases hins with
  | @chr cc v hcl =>
  simp only [List.getElem?_cons_zero, List.getElem?_cons_succ] at c0 c1 c2 c3
  obtain ⟨Tv, pa, fv, rfl, hme, hen, hmc⟩ := hcl.meetsAll
  have HCL := Lib.hid hcl
  have HMC := Lib.hid hmc
  clear hcl hmc
  obtain ⟨sb, so, rfl, hsc⟩ := he.src (by omega)
  obtain ⟨z, hz⟩ : ∃ z, zs.getD sp 0 = z := ⟨_, rfl⟩
  have hzb := getD_byte he.byte sp
  have hcz := hsc sp hlt
  rw [hz] at hzb hcz
  rw [byteAt_lt hlt, hz] at hq
  have hz0 := hzb.1
  have hz1 := hzb.2
  have HQ := Lib.hid hq
  have HCZ := Lib.hid hcz
  clear hsc hz hzb hq hcz
  have HR := Lib.hid hr
  clear hr
  have hsl : 0 < zs.length → ∀ x : Addr, (some ⟨sb, so, none⟩) = some x → x.block < w.heap.size := fun h0 x hx => Nat.lt_of_lt_of_le (hs0 h0 x hx) hm0.size
  have HM1 := Lib.hid ((Moved.refl w m ao).alloc (.cells #[.int .i64 0, .iface Tv (.pointer pa), .int .i64 (-1), .int .i64 (-1)] 123))
  have HE1 := Lib.hid (he.moved HM1.out hsl)
  have HMD1 := Lib.hid (hmd.allocO (.cells #[.int .i64 0, .iface Tv (.pointer pa), .int .i64 (-1), .int .i64 (-1)] 123))
  have HMM1 := Lib.hid (hm0.trans HM1.out)
  have HBK := Lib.hid (blk_new w (.cells #[.int .i64 0, .iface Tv (.pointer pa), .int .i64 (-1), .int .i64 (-1)] 123))
  have HSL : Hid (0 < zs.length → ∀ x : Addr, (some ⟨sb, so, none⟩) = some x → x.block < (w.alloc (.cells #[.int .i64 0, .iface Tv (.pointer pa), .int .i64 (-1), .int .i64 (-1)] 123)).heap.size) := Lib.hid (fun h0 x hx => Nat.lt_of_lt_of_le (hsl h0 x hx) HM1.out.size)
  have HJ := Lib.hid hJ
  have HS0 := Lib.hid hs0
  have HI := Lib.hid hi
  clear he hs0 hmd hm0 hJ hsl HM1 hi
  conv => arg 2; whnf
  have HCC : Hid (∀ n : Nat, Calls Tryf.prog fv #[.pointer pa, .int .i64 z] ((w.alloc (.cells #[.int .i64 0, .iface Tv (.pointer pa), .int .i64 (-1), .int .i64 (-1)] 123)).drewN n) fun e' w'' => e' = .returned (.bool true) ∧ w'' = (w.alloc (.cells #[.int .i64 0, .iface Tv (.pointer pa), .int .i64 (-1), .int .i64 (-1)] 123)).drewN n) := Lib.hid (fun n => by
    have h := HMC.out ((w.alloc (.cells #[.int .i64 0, .iface Tv (.pointer pa), .int .i64 (-1), .int .i64 (-1)] 123)).drewN n) (CX m ao) (HCL.out.kept (fun _ o _ ho => blk_drewN (blk_alloc ho _) _) (fun _ _ h => h)) z
    rw [HQ.out] at h
    exact h.mono fun _ _ h => ⟨h.1, h.2.symm⟩)
  have hcz : (w.alloc (.cells #[.int .i64 0, .iface Tv (.pointer pa), .int .i64 (-1), .int .i64 (-1)] 123)).cell? ⟨sb, so + sp, none⟩ = some (.int .u8 z) := (World.cell?_alloc_lt w _ _ (lt_of_cell HCZ.out)).trans HCZ.out
  have tg : decide ((zs.length : Int) ≤ (sp : Int)) = false := decide_eq_false (by omega)
  have hspi : (sp : Int) < (zs.length : Int) := by omega
  have wz : IntKind.i64.wrap z = z := by rw [IntWalk.i64_in _ (by omega)]
  have kb1 : (w.alloc (.cells #[.int .i64 0, .iface Tv (.pointer pa), .int .i64 (-1), .int .i64 (-1)] 123)).cell? ⟨w.heap.size, 1, none⟩ = some (.iface Tv (.pointer pa)) := blk_cell HBK.out 1 _ rfl
  go_upto_region 11 with (fail)
  generalize w.alloc (.cells #[.int .i64 0, .iface Tv (.pointer pa), .int .i64 (-1), .int .i64 (-1)] 123) = w1 at *
  go_quiet ((exact Calls.quiet_of_same (HCC.out _)))
  clear wz
  generalize hwd : World.drewN w1 _ = wd
  have HMDd : Hid (MD wd m ao cap us) := by subst hwd; exact Lib.hid (HMD1.out.drewO _)
  have HMMd : Hid (Moved w0 wd m ao0 ao) := by subst hwd; exact Lib.hid (HMM1.out.drewN _)
  have HEd : Hid (VEnv wd (CX m ao) (some ⟨sb, so, none⟩) zs (some ⟨ig, 0, none⟩) icap I ys) := by subst hwd; exact Lib.hid (HE1.out.moved ((Moved.refl w1 m ao).drewN _) HSL.out)
  clear hwd
  go_wp2_with fail
  go_step3
  refine ⟨rfl, ?_⟩
  exact HJ.out _ _ (vj_mk (by omega) (by omega) rfl rfl rfl rfl rfl rfl rfl rfl HEd.out HMDd.out HMMd.out HR.out (by omega) hcp)



set_option maxHeartbeats 4000000 in
set_option maxRecDepth 1000000 in
theorem vm_chrEnd {w0 w : World} {m : Nat} {ao0 ao : Option Addr} {cap : Nat} {us : List Int} {sao : Option Addr} {scap : Nat} {zs : List Int} {iao : Option Addr} {icap : Nat} {I : List Ins} {ys : List Value} {rc d pc sp nn : Nat} {r : Bool × Nat × List Int} {J : Act → World → Prop}
    (he : VEnv w (CX m ao) sao zs iao icap I ys) (hs0 : 0 < zs.length → ∀ x, sao = some x → x.block < w0.heap.size) (hmd : MD w m ao cap us) (hm0 : Moved w0 w m ao0 ao) (hsp : sp ≤ zs.length) (hcp : zs.length ≤ scap) (hrc : rc + d ≤ 1000000)
    (hJ : True)
    {cc : Cl} (hi : I[pc]? = some (.chr cc)) (hlt : zs.length ≤ sp) (hrr : r = (false, sp, us)) (f : Nat → Value) :
    vmRest.wp Tryf.prog (Exit.jump 0 J (VQ w0 m ao0 r)) { tmps := #[.slice sao zs.length scap, .slice iao I.length icap, .int .i64 pc, .int .i64 sp, .int .i64 rc, f 5, f 6, f 7, f 8, f 9, f 10, f 11, f 12, f 13, f 14, .pointer (some ⟨m, 0, none⟩), f 16, f 17, f 18, f 19, f 20, f 21, f 22, f 23, f 24, f 25, f 26, f 27, f 28, f 29, f 30, f 31, f 32, f 33, f 34, f 35, f 36, f 37, f 38, f 39, f 40, f 41, f 42, f 43, f 44, f 45, f 46, f 47, f 48, f 49, f 50, f 51, f 52, f 53, f 54, f 55, f 56, f 57, f 58, f 59, f 60, f 61, f 62, f 63, f 64, f 65, f 66, f 67, f 68, f 69, f 70, f 71, f 72, f 73, f 74, f 75, f 76, f 77, f 78, f 79, f 80, f 81, f 82, f 83, f 84, f 85, f 86, f 87, f 88, f 89, f 90, f 91, f 92, f 93, f 94, f 95, f 96, f 97, f 98, f 99, f 100, f 101, f 102, f 103, f 104, f 105, f 106, f 107, f 108, f 109, f 110, f 111, f 112, f 113, f 114, f 115, f 116, f 117, f 118, f 119, f 120, f 121, f 122, f 123, f 124, f 125, f 126, f 127, f 128, f 129, f 130, f 131, f 132, f 133, f 134, f 135, f 136, f 137, f 138, f 139, f 140, f 141, f 142, f 143, f 144, f 145, f 146, f 147, f 148, f 149, f 150, f 151, f 152, f 153, f 154, f 155, f 156, f 157, f 158, f 159, f 160, f 161, f 162, f 163, f 164, f 165, f 166, f 167, f 168, f 169, f 170, f 171, f 172, f 173, f 174, f 175, f 176, f 177, f 178, f 179, f 180, f 181, f 182, f 183, f 184, f 185, f 186, f 187, f 188, f 189, f 190, f 191, f 192, f 193, f 194, f 195, f 196, f 197, f 198, f 199, f 200, f 201, f 202, f 203, f 204, f 205, f 206, f 207, f 208, f 209, f 210, f 211, f 212, f 213, f 214, f 215, f 216, f 217, f 218, f 219, f 220, f 221, f 222, f 223, f 224, f 225, f 226, f 227, f 228, f 229, f 230, f 231, f 232, f 233, f 234, f 235, f 236, f 237, f 238, f 239, f 240, f 241, f 242, f 243, f 244, f 245, f 246, f 247, f 248, f 249, f 250, f 251, f 252, f 253, f 254, f 255, f 256], defers := [] } w := by
  obtain ⟨ig, xs, rfl, hins, hpc, hmx, c0, c1, c2, c3⟩ := he.ins hi
  have hpci : (pc : Int) < (I.length : Int) := by omega
  have hlen := he.len
  cases hins with
  | @chr cc v hcl =>
  simp only [List.getElem?_cons_zero, List.getElem?_cons_succ] at c0 c1 c2 c3
  obtain ⟨Tv, pa, fv, rfl, hme, hen, hmc⟩ := hcl.meetsAll
  have HCL := Lib.hid hcl
  have HMC := Lib.hid hmc
  clear hcl hmc
  subst hrr
  have hsl : 0 < zs.length → ∀ x : Addr, sao = some x → x.block < w.heap.size := fun h0 x hx => Nat.lt_of_lt_of_le (hs0 h0 x hx) hm0.size
  have HM1 := Lib.hid ((Moved.refl w m ao).alloc (.cells #[.int .i64 0, .iface Tv (.pointer pa), .int .i64 (-1), .int .i64 (-1)] 123))
  have HE1 := Lib.hid (he.moved HM1.out hsl)
  have HMD1 := Lib.hid (hmd.allocO (.cells #[.int .i64 0, .iface Tv (.pointer pa), .int .i64 (-1), .int .i64 (-1)] 123))
  have HMM1 := Lib.hid (hm0.trans HM1.out)
  have HBK := Lib.hid (blk_new w (.cells #[.int .i64 0, .iface Tv (.pointer pa), .int .i64 (-1), .int .i64 (-1)] 123))
  have HSL : Hid (0 < zs.length → ∀ x : Addr, sao = some x → x.block < (w.alloc (.cells #[.int .i64 0, .iface Tv (.pointer pa), .int .i64 (-1), .int .i64 (-1)] 123)).heap.size) := Lib.hid (fun h0 x hx => Nat.lt_of_lt_of_le (hsl h0 x hx) HM1.out.size)
  have HJ := Lib.hid hJ
  have HS0 := Lib.hid hs0
  have HI := Lib.hid hi
  clear he hs0 hmd hm0 hJ hsl HM1 hi
  conv => arg 2; whnf
  have tg : decide ((zs.length : Int) ≤ (sp : Int)) = true := decide_eq_true (by omega)
  go_upto_region 11 with (fail)
  generalize w.alloc (.cells #[.int .i64 0, .iface Tv (.pointer pa), .int .i64 (-1), .int .i64 (-1)] 123) = w1 at *
  go_quiet (fail)
  generalize hwd : World.drewN w1 _ = wd
  have HMDd : Hid (MD wd m ao cap us) := by subst hwd; exact Lib.hid (HMD1.out.drewO _)
  have HMMd : Hid (Moved w0 wd m ao0 ao) := by subst hwd; exact Lib.hid (HMM1.out.drewN _)
  clear hwd
  go_wp2_with fail
  exact ⟨rfl, rfl, rfl, rfl, _, _, HMDd.out, HMMd.out⟩


end Go.Proofs.YtcfhhcjcnafcjaaFmt
