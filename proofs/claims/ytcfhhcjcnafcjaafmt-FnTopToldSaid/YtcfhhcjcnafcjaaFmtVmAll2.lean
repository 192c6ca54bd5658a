/-
  Passes of recursiveVM from its label: a balanced match, a back-reference. Conditions as each statement says.
-/
import Derived.Test.YtcfhhcjcnafcjaaFmtVmDefs
import Derived.BigQuiet
import Derived.BigGuardPart
namespace Go.Proofs.YtcfhhcjcnafcjaaFmt
open Go.RowKit
set_option linter.unusedVariables false
set_option linter.unusedSimpArgs false


set_option maxHeartbeats 4000000 in
set_option maxRecDepth 1000000 in
theorem vm_brcEnd {w0 w : World} {m : Nat} {ao0 ao : Option Addr} {cap : Nat} {us : List Int} {sao : Option Addr} {scap : Nat} {zs : List Int} {iao : Option Addr} {icap : Nat} {I : List Ins} {ys : List Value} {rc d pc sp nn : Nat} {r : Bool × Nat × List Int} {J : Act → World → Prop}
    (he : VEnv w (CX m ao) sao zs iao icap I ys) (hs0 : 0 < zs.length → ∀ x, sao = some x → x.block < w0.heap.size) (hmd : MD w m ao cap us) (hm0 : Moved w0 w m ao0 ao) (hsp : sp ≤ zs.length) (hcp : zs.length ≤ scap) (hrc : rc + d ≤ 1000000)
    (hJ : True)
    {bx be : Int} (hi : I[pc]? = some (.brace bx be)) (hlt : zs.length ≤ sp) (hrr : r = (false, sp, us)) (f : Nat → Value) :
    vmRest.wp Tryf.prog (Exit.jump 0 J (VQ w0 m ao0 r)) { tmps := #[.slice sao zs.length scap, .slice iao I.length icap, .int .i64 pc, .int .i64 sp, .int .i64 rc, f 5, f 6, f 7, f 8, f 9, f 10, f 11, f 12, f 13, f 14, .pointer (some ⟨m, 0, none⟩), f 16, f 17, f 18, f 19, f 20, f 21, f 22, f 23, f 24, f 25, f 26, f 27, f 28, f 29, f 30, f 31, f 32, f 33, f 34, f 35, f 36, f 37, f 38, f 39, f 40, f 41, f 42, f 43, f 44, f 45, f 46, f 47, f 48, f 49, f 50, f 51, f 52, f 53, f 54, f 55, f 56, f 57, f 58, f 59, f 60, f 61, f 62, f 63, f 64, f 65, f 66, f 67, f 68, f 69, f 70, f 71, f 72, f 73, f 74, f 75, f 76, f 77, f 78, f 79, f 80, f 81, f 82, f 83, f 84, f 85, f 86, f 87, f 88, f 89, f 90, f 91, f 92, f 93, f 94, f 95, f 96, f 97, f 98, f 99, f 100, f 101, f 102, f 103, f 104, f 105, f 106, f 107, f 108, f 109, f 110, f 111, f 112, f 113, f 114, f 115, f 116, f 117, f 118, f 119, f 120, f 121, f 122, f 123, f 124, f 125, f 126, f 127, f 128, f 129, f 130, f 131, f 132, f 133, f 134, f 135, f 136, f 137, f 138, f 139, f 140, f 141, f 142, f 143, f 144, f 145, f 146, f 147, f 148, f 149, f 150, f 151, f 152, f 153, f 154, f 155, f 156, f 157, f 158, f 159, f 160, f 161, f 162, f 163, f 164, f 165, f 166, f 167, f 168, f 169, f 170, f 171, f 172, f 173, f 174, f 175, f 176, f 177, f 178, f 179, f 180, f 181, f 182, f 183, f 184, f 185, f 186, f 187, f 188, f 189, f 190, f 191, f 192, f 193, f 194, f 195, f 196, f 197, f 198, f 199, f 200, f 201, f 202, f 203, f 204, f 205, f 206, f 207, f 208, f 209, f 210, f 211, f 212, f 213, f 214, f 215, f 216, f 217, f 218, f 219, f 220, f 221, f 222, f 223, f 224, f 225, f 226, f 227, f 228, f 229, f 230, f 231, f 232, f 233, f 234, f 235, f 236, f 237, f 238, f 239, f 240, f 241, f 242, f 243, f 244, f 245, f 246, f 247, f 248, f 249, f 250, f 251, f 252, f 253, f 254, f 255, f 256], defers := [] } w := by
  obtain ⟨ig, xs, rfl, hins, hpc, hmx, c0, c1, c2, c3⟩ := he.ins hi
  have hpci : (pc : Int) < (I.length : Int) := by omega
  have hlen := he.len
  cases hins with
  | brace =>
  simp only [List.getElem?_cons_zero, List.getElem?_cons_succ] at c0 c1 c2 c3
  subst hrr
  have hsl : 0 < zs.length → ∀ x : Addr, sao = some x → x.block < w.heap.size := fun h0 x hx => Nat.lt_of_lt_of_le (hs0 h0 x hx) hm0.size
  have HM1 := Lib.hid ((Moved.refl w m ao).alloc (.cells #[.int .i64 7, .nilIface, .int .i64 bx, .int .i64 be] 123))
  have HE1 := Lib.hid (he.moved HM1.out hsl)
  have HMD1 := Lib.hid (hmd.allocO (.cells #[.int .i64 7, .nilIface, .int .i64 bx, .int .i64 be] 123))
  have HMM1 := Lib.hid (hm0.trans HM1.out)
  have HBK := Lib.hid (blk_new w (.cells #[.int .i64 7, .nilIface, .int .i64 bx, .int .i64 be] 123))
  have HSL : Hid (0 < zs.length → ∀ x : Addr, sao = some x → x.block < (w.alloc (.cells #[.int .i64 7, .nilIface, .int .i64 bx, .int .i64 be] 123)).heap.size) := Lib.hid (fun h0 x hx => Nat.lt_of_lt_of_le (hsl h0 x hx) HM1.out.size)
  have HJ := Lib.hid hJ
  have HS0 := Lib.hid hs0
  have HI := Lib.hid hi
  clear he hs0 hmd hm0 hJ hsl HM1 hi
  conv => arg 2; whnf
  have tg : decide ((zs.length : Int) ≤ (sp : Int)) = true := decide_eq_true (by omega)
  have kb2 : (w.alloc (.cells #[.int .i64 7, .nilIface, .int .i64 bx, .int .i64 be] 123)).cell? ⟨w.heap.size, 2, none⟩ = some (.int .i64 bx) := blk_cell HBK.out 2 _ rfl
  go_upto_region 37 with (fail)
  generalize w.alloc (.cells #[.int .i64 7, .nilIface, .int .i64 bx, .int .i64 be] 123) = w1 at *
  go_quiet (fail)
  generalize hwd : World.drewN w1 _ = wd
  have HMDd : Hid (MD wd m ao cap us) := by subst hwd; exact Lib.hid (HMD1.out.drewO _)
  have HMMd : Hid (Moved w0 wd m ao0 ao) := by subst hwd; exact Lib.hid (HMM1.out.drewN _)
  have HEd : Hid (VEnv wd (CX m ao) sao zs (some ⟨ig, 0, none⟩) icap I ys) := by subst hwd; exact Lib.hid (HE1.out.moved ((Moved.refl w1 m ao).drewN _) HSL.out)
  have HBd : Hid (wd.heap[w.heap.size]? = some (.cells #[.int .i64 7, .nilIface, .int .i64 bx, .int .i64 be] 123 (0, 0))) := by subst hwd; exact Lib.hid (blk_drewN HBK.out _)
  clear hwd
  go_wp2_with fail
  exact ⟨rfl, rfl, rfl, rfl, _, _, HMDd.out, HMMd.out⟩



set_option maxHeartbeats 4000000 in
set_option maxRecDepth 1000000 in
theorem vm_brcNo {w0 w : World} {m : Nat} {ao0 ao : Option Addr} {cap : Nat} {us : List Int} {sao : Option Addr} {scap : Nat} {zs : List Int} {iao : Option Addr} {icap : Nat} {I : List Ins} {ys : List Value} {rc d pc sp nn : Nat} {r : Bool × Nat × List Int} {J : Act → World → Prop}
    (he : VEnv w (CX m ao) sao zs iao icap I ys) (hs0 : 0 < zs.length → ∀ x, sao = some x → x.block < w0.heap.size) (hmd : MD w m ao cap us) (hm0 : Moved w0 w m ao0 ao) (hsp : sp ≤ zs.length) (hcp : zs.length ≤ scap) (hrc : rc + d ≤ 1000000)
    (hJ : True)
    {bx be : Int} (hi : I[pc]? = some (.brace bx be)) (hlt : sp < zs.length) (hq : byteAt zs sp ≠ bx) (hrr : r = (false, sp, us)) (f : Nat → Value) :
    vmRest.wp Tryf.prog (Exit.jump 0 J (VQ w0 m ao0 r)) { tmps := #[.slice sao zs.length scap, .slice iao I.length icap, .int .i64 pc, .int .i64 sp, .int .i64 rc, f 5, f 6, f 7, f 8, f 9, f 10, f 11, f 12, f 13, f 14, .pointer (some ⟨m, 0, none⟩), f 16, f 17, f 18, f 19, f 20, f 21, f 22, f 23, f 24, f 25, f 26, f 27, f 28, f 29, f 30, f 31, f 32, f 33, f 34, f 35, f 36, f 37, f 38, f 39, f 40, f 41, f 42, f 43, f 44, f 45, f 46, f 47, f 48, f 49, f 50, f 51, f 52, f 53, f 54, f 55, f 56, f 57, f 58, f 59, f 60, f 61, f 62, f 63, f 64, f 65, f 66, f 67, f 68, f 69, f 70, f 71, f 72, f 73, f 74, f 75, f 76, f 77, f 78, f 79, f 80, f 81, f 82, f 83, f 84, f 85, f 86, f 87, f 88, f 89, f 90, f 91, f 92, f 93, f 94, f 95, f 96, f 97, f 98, f 99, f 100, f 101, f 102, f 103, f 104, f 105, f 106, f 107, f 108, f 109, f 110, f 111, f 112, f 113, f 114, f 115, f 116, f 117, f 118, f 119, f 120, f 121, f 122, f 123, f 124, f 125, f 126, f 127, f 128, f 129, f 130, f 131, f 132, f 133, f 134, f 135, f 136, f 137, f 138, f 139, f 140, f 141, f 142, f 143, f 144, f 145, f 146, f 147, f 148, f 149, f 150, f 151, f 152, f 153, f 154, f 155, f 156, f 157, f 158, f 159, f 160, f 161, f 162, f 163, f 164, f 165, f 166, f 167, f 168, f 169, f 170, f 171, f 172, f 173, f 174, f 175, f 176, f 177, f 178, f 179, f 180, f 181, f 182, f 183, f 184, f 185, f 186, f 187, f 188, f 189, f 190, f 191, f 192, f 193, f 194, f 195, f 196, f 197, f 198, f 199, f 200, f 201, f 202, f 203, f 204, f 205, f 206, f 207, f 208, f 209, f 210, f 211, f 212, f 213, f 214, f 215, f 216, f 217, f 218, f 219, f 220, f 221, f 222, f 223, f 224, f 225, f 226, f 227, f 228, f 229, f 230, f 231, f 232, f 233, f 234, f 235, f 236, f 237, f 238, f 239, f 240, f 241, f 242, f 243, f 244, f 245, f 246, f 247, f 248, f 249, f 250, f 251, f 252, f 253, f 254, f 255, f 256], defers := [] } w := by
  obtain ⟨ig, xs, rfl, hins, hpc, hmx, c0, c1, c2, c3⟩ := he.ins hi
  have hpci : (pc : Int) < (I.length : Int) := by omega
  have hlen := he.len
  cases hins with
  | brace =>
  simp only [List.getElem?_cons_zero, List.getElem?_cons_succ] at c0 c1 c2 c3
  obtain ⟨sb, so, rfl, hsc⟩ := he.src (by omega)
  obtain ⟨z, hz⟩ : ∃ z, zs.getD sp 0 = z := ⟨_, rfl⟩
  have hzb := getD_byte he.byte sp
  have hcz := hsc sp hlt
  rw [hz] at hzb hcz
  rw [byteAt_lt hlt, hz] at hq
  have hz0 := hzb.1
  have hz1 := hzb.2
  have HQ := Lib.hid hq
  have HCZ := Lib.hid hcz
  clear hsc hz hzb hq hcz
  subst hrr
  have hsl : 0 < zs.length → ∀ x : Addr, (some ⟨sb, so, none⟩) = some x → x.block < w.heap.size := fun h0 x hx => Nat.lt_of_lt_of_le (hs0 h0 x hx) hm0.size
  have HM1 := Lib.hid ((Moved.refl w m ao).alloc (.cells #[.int .i64 7, .nilIface, .int .i64 bx, .int .i64 be] 123))
  have HE1 := Lib.hid (he.moved HM1.out hsl)
  have HMD1 := Lib.hid (hmd.allocO (.cells #[.int .i64 7, .nilIface, .int .i64 bx, .int .i64 be] 123))
  have HMM1 := Lib.hid (hm0.trans HM1.out)
  have HBK := Lib.hid (blk_new w (.cells #[.int .i64 7, .nilIface, .int .i64 bx, .int .i64 be] 123))
  have HSL : Hid (0 < zs.length → ∀ x : Addr, (some ⟨sb, so, none⟩) = some x → x.block < (w.alloc (.cells #[.int .i64 7, .nilIface, .int .i64 bx, .int .i64 be] 123)).heap.size) := Lib.hid (fun h0 x hx => Nat.lt_of_lt_of_le (hsl h0 x hx) HM1.out.size)
  have HJ := Lib.hid hJ
  have HS0 := Lib.hid hs0
  have HI := Lib.hid hi
  clear he hs0 hmd hm0 hJ hsl HM1 hi
  conv => arg 2; whnf
  have hcz : (w.alloc (.cells #[.int .i64 7, .nilIface, .int .i64 bx, .int .i64 be] 123)).cell? ⟨sb, so + sp, none⟩ = some (.int .u8 z) := (World.cell?_alloc_lt w _ _ (lt_of_cell HCZ.out)).trans HCZ.out
  have tg : decide ((zs.length : Int) ≤ (sp : Int)) = false := decide_eq_false (by omega)
  have tgn : decide (zs.length ≤ sp) = false := decide_eq_false (by omega)
  have hspi : (sp : Int) < (zs.length : Int) := by omega
  have wz : IntKind.i64.wrap z = z := by rw [IntWalk.i64_in _ (by omega)]
  have tz : (z != bx) = true := by have := HQ.out; simpa using this
  have kb2 : (w.alloc (.cells #[.int .i64 7, .nilIface, .int .i64 bx, .int .i64 be] 123)).cell? ⟨w.heap.size, 2, none⟩ = some (.int .i64 bx) := blk_cell HBK.out 2 _ rfl
  go_upto_region 37 with (fail)
  generalize w.alloc (.cells #[.int .i64 7, .nilIface, .int .i64 bx, .int .i64 be] 123) = w1 at *
  go_quiet (fail)
  generalize hwd : World.drewN w1 _ = wd
  have HMDd : Hid (MD wd m ao cap us) := by subst hwd; exact Lib.hid (HMD1.out.drewO _)
  have HMMd : Hid (Moved w0 wd m ao0 ao) := by subst hwd; exact Lib.hid (HMM1.out.drewN _)
  have HEd : Hid (VEnv wd (CX m ao) (some ⟨sb, so, none⟩) zs (some ⟨ig, 0, none⟩) icap I ys) := by subst hwd; exact Lib.hid (HE1.out.moved ((Moved.refl w1 m ao).drewN _) HSL.out)
  have HBd : Hid (wd.heap[w.heap.size]? = some (.cells #[.int .i64 7, .nilIface, .int .i64 bx, .int .i64 be] 123 (0, 0))) := by subst hwd; exact Lib.hid (blk_drewN HBK.out _)
  clear hwd
  clear wz hcz
  go_wp2_with fail
  exact ⟨rfl, rfl, rfl, rfl, _, _, HMDd.out, HMMd.out⟩



set_option maxHeartbeats 4000000 in
set_option maxRecDepth 1000000 in
theorem vm_brcRun {w0 w : World} {m : Nat} {ao0 ao : Option Addr} {cap : Nat} {us : List Int} {sao : Option Addr} {scap : Nat} {zs : List Int} {iao : Option Addr} {icap : Nat} {I : List Ins} {ys : List Value} {rc d pc sp nn : Nat} {r : Bool × Nat × List Int} {J : Act → World → Prop}
    (he : VEnv w (CX m ao) sao zs iao icap I ys) (hs0 : 0 < zs.length → ∀ x, sao = some x → x.block < w0.heap.size) (hmd : MD w m ao cap us) (hm0 : Moved w0 w m ao0 ao) (hsp : sp ≤ zs.length) (hcp : zs.length ≤ scap) (hrc : rc + d ≤ 1000000)
    (hJ : True)
    {bx be : Int} {res : Option Nat} (hi : I[pc]? = some (.brace bx be)) (hlt : sp < zs.length) (hq : byteAt zs sp = bx) (hres : braceRun zs bx be (sp + 1) 1 = res) (hN : res = none → r = (false, zs.length, us)) (hS : ∀ s', res = some s' → VRun zs I d nn (pc + 1) s' us r ∧ s' ≤ zs.length ∧ ∀ a' w', VJ w0 m ao0 sao scap zs iao icap I ys rc d r nn a' w' → J a' w') (f : Nat → Value) :
    vmRest.wp Tryf.prog (Exit.jump 0 J (VQ w0 m ao0 r)) { tmps := #[.slice sao zs.length scap, .slice iao I.length icap, .int .i64 pc, .int .i64 sp, .int .i64 rc, f 5, f 6, f 7, f 8, f 9, f 10, f 11, f 12, f 13, f 14, .pointer (some ⟨m, 0, none⟩), f 16, f 17, f 18, f 19, f 20, f 21, f 22, f 23, f 24, f 25, f 26, f 27, f 28, f 29, f 30, f 31, f 32, f 33, f 34, f 35, f 36, f 37, f 38, f 39, f 40, f 41, f 42, f 43, f 44, f 45, f 46, f 47, f 48, f 49, f 50, f 51, f 52, f 53, f 54, f 55, f 56, f 57, f 58, f 59, f 60, f 61, f 62, f 63, f 64, f 65, f 66, f 67, f 68, f 69, f 70, f 71, f 72, f 73, f 74, f 75, f 76, f 77, f 78, f 79, f 80, f 81, f 82, f 83, f 84, f 85, f 86, f 87, f 88, f 89, f 90, f 91, f 92, f 93, f 94, f 95, f 96, f 97, f 98, f 99, f 100, f 101, f 102, f 103, f 104, f 105, f 106, f 107, f 108, f 109, f 110, f 111, f 112, f 113, f 114, f 115, f 116, f 117, f 118, f 119, f 120, f 121, f 122, f 123, f 124, f 125, f 126, f 127, f 128, f 129, f 130, f 131, f 132, f 133, f 134, f 135, f 136, f 137, f 138, f 139, f 140, f 141, f 142, f 143, f 144, f 145, f 146, f 147, f 148, f 149, f 150, f 151, f 152, f 153, f 154, f 155, f 156, f 157, f 158, f 159, f 160, f 161, f 162, f 163, f 164, f 165, f 166, f 167, f 168, f 169, f 170, f 171, f 172, f 173, f 174, f 175, f 176, f 177, f 178, f 179, f 180, f 181, f 182, f 183, f 184, f 185, f 186, f 187, f 188, f 189, f 190, f 191, f 192, f 193, f 194, f 195, f 196, f 197, f 198, f 199, f 200, f 201, f 202, f 203, f 204, f 205, f 206, f 207, f 208, f 209, f 210, f 211, f 212, f 213, f 214, f 215, f 216, f 217, f 218, f 219, f 220, f 221, f 222, f 223, f 224, f 225, f 226, f 227, f 228, f 229, f 230, f 231, f 232, f 233, f 234, f 235, f 236, f 237, f 238, f 239, f 240, f 241, f 242, f 243, f 244, f 245, f 246, f 247, f 248, f 249, f 250, f 251, f 252, f 253, f 254, f 255, f 256], defers := [] } w := by
  obtain ⟨ig, xs, rfl, hins, hpc, hmx, c0, c1, c2, c3⟩ := he.ins hi
  have hpci : (pc : Int) < (I.length : Int) := by omega
  have hlen := he.len
  cases hins with
  | brace =>
  simp only [List.getElem?_cons_zero, List.getElem?_cons_succ] at c0 c1 c2 c3
  obtain ⟨sb, so, rfl, hsc⟩ := he.src (by omega)
  obtain ⟨z, hz⟩ : ∃ z, zs.getD sp 0 = z := ⟨_, rfl⟩
  have hzb := getD_byte he.byte sp
  have hcz := hsc sp hlt
  rw [hz] at hzb hcz
  rw [byteAt_lt hlt, hz] at hq
  have hz0 := hzb.1
  have hz1 := hzb.2
  have HQ := Lib.hid hq
  have HCZ := Lib.hid hcz
  clear hsc hz hzb hq hcz
  have HNN := Lib.hid hN
  have HSS := Lib.hid hS
  have HRS := Lib.hid hres
  clear hN hS hres
  have hsl : 0 < zs.length → ∀ x : Addr, (some ⟨sb, so, none⟩) = some x → x.block < w.heap.size := fun h0 x hx => Nat.lt_of_lt_of_le (hs0 h0 x hx) hm0.size
  have HM1 := Lib.hid ((Moved.refl w m ao).alloc (.cells #[.int .i64 7, .nilIface, .int .i64 bx, .int .i64 be] 123))
  have HE1 := Lib.hid (he.moved HM1.out hsl)
  have HMD1 := Lib.hid (hmd.allocO (.cells #[.int .i64 7, .nilIface, .int .i64 bx, .int .i64 be] 123))
  have HMM1 := Lib.hid (hm0.trans HM1.out)
  have HBK := Lib.hid (blk_new w (.cells #[.int .i64 7, .nilIface, .int .i64 bx, .int .i64 be] 123))
  have HSL : Hid (0 < zs.length → ∀ x : Addr, (some ⟨sb, so, none⟩) = some x → x.block < (w.alloc (.cells #[.int .i64 7, .nilIface, .int .i64 bx, .int .i64 be] 123)).heap.size) := Lib.hid (fun h0 x hx => Nat.lt_of_lt_of_le (hsl h0 x hx) HM1.out.size)
  have HJ := Lib.hid hJ
  have HS0 := Lib.hid hs0
  have HI := Lib.hid hi
  clear he hs0 hmd hm0 hJ hsl HM1 hi
  conv => arg 2; whnf
  have hcz : (w.alloc (.cells #[.int .i64 7, .nilIface, .int .i64 bx, .int .i64 be] 123)).cell? ⟨sb, so + sp, none⟩ = some (.int .u8 z) := (World.cell?_alloc_lt w _ _ (lt_of_cell HCZ.out)).trans HCZ.out
  have tg : decide ((zs.length : Int) ≤ (sp : Int)) = false := decide_eq_false (by omega)
  have tgn : decide (zs.length ≤ sp) = false := decide_eq_false (by omega)
  have hspi : (sp : Int) < (zs.length : Int) := by omega
  have wz : IntKind.i64.wrap z = z := by rw [IntWalk.i64_in _ (by omega)]
  have tz : (z != bx) = false := by have := HQ.out; simpa using this
  have kb2 : (w.alloc (.cells #[.int .i64 7, .nilIface, .int .i64 bx, .int .i64 be] 123)).cell? ⟨w.heap.size, 2, none⟩ = some (.int .i64 bx) := blk_cell HBK.out 2 _ rfl
  go_upto_region 37 with (fail)
  generalize w.alloc (.cells #[.int .i64 7, .nilIface, .int .i64 bx, .int .i64 be] 123) = w1 at *
  go_quiet (fail)
  generalize hwd : World.drewN w1 _ = wd
  have HMDd : Hid (MD wd m ao cap us) := by subst hwd; exact Lib.hid (HMD1.out.drewO _)
  have HMMd : Hid (Moved w0 wd m ao0 ao) := by subst hwd; exact Lib.hid (HMM1.out.drewN _)
  have HEd : Hid (VEnv wd (CX m ao) (some ⟨sb, so, none⟩) zs (some ⟨ig, 0, none⟩) icap I ys) := by subst hwd; exact Lib.hid (HE1.out.moved ((Moved.refl w1 m ao).drewN _) HSL.out)
  have HBd : Hid (wd.heap[w.heap.size]? = some (.cells #[.int .i64 7, .nilIface, .int .i64 bx, .int .i64 be] 123 (0, 0))) := by subst hwd; exact Lib.hid (blk_drewN HBK.out _)
  clear hwd
  clear wz hcz
  go_wp2_with fail
  go_loopg [2, 3, 24] (zs.length - (sp + 1)) (fun k v2 v3 v24 wr => ∃ (s : Nat) (ct : Int), k = zs.length - s ∧ v2 = .int .i64 (pc : Int) ∧ v3 = .int .i64 (s : Int) ∧ v24 = .int .i64 ct ∧ s ≤ zs.length ∧ 1 ≤ ct ∧ ct ≤ 1 + (s : Int) ∧ Hid (braceRun zs bx be s ct = res) ∧ Hid (MD wr m ao cap us) ∧ Hid (Moved w0 wr m ao0 ao) ∧ Hid (VEnv wr (CX m ao) (some ⟨sb, so, none⟩) zs (some ⟨ig, 0, none⟩) icap I ys) ∧ Hid (wr.heap[w.heap.size]? = some (.cells #[.int .i64 7, .nilIface, .int .i64 bx, .int .i64 be] 123 (0, 0))))
  case atStart => exact ⟨sp + 1, 1, rfl, rfl, by rw [Int.natCast_add]; rfl, rfl, by omega, by omega, by omega, HRS, HMDd, HMMd, HEd, HBd⟩
  case round =>
    obtain ⟨s, ct, rfl, rfl, rfl, rfl, hs, hc1, hc2, HX, HMDr, HMMr, HEr, HBr⟩ := hrel
    by_cases hlt : s < zs.length
    · have hsi : (s : Int) < (zs.length : Int) := by omega
      have tl : decide ((s : Int) < (zs.length : Int)) = true := decide_eq_true hsi
      obtain ⟨z, hz⟩ : ∃ z, zs.getD s 0 = z := ⟨_, rfl⟩
      have hzb := getD_byte HEr.out.byte s
      rw [hz] at hzb
      have hz0 := hzb.1
      have hz1 := hzb.2
      have wz : IntKind.i64.wrap z = z := by rw [IntWalk.i64_in _ (by omega)]
      have HZ : Hid (byteAt zs s = z) := Lib.hid ((byteAt_lt hlt).trans hz)
      clear hzb
      obtain ⟨sb', so', ea, hsc⟩ := HEr.out.src (by omega)
      injection ea with ea
      injection ea with ea1 ea2
      subst ea1 ea2
      have hcz := hsc s hlt
      rw [hz] at hcz
      clear hsc
      have kb2 := blk_cell HBr.out 2 _ rfl
      have kb3 := blk_cell HBr.out 3 _ rfl
      clear hz
      by_cases hq : z = be
      · have tq : (z == be) = true := by simpa using hq
        have HQ2 := Lib.hid hq
        clear hq
        go_wp2_with fail
        go_quiet (fail)
        generalize hwd : World.drewN wr _ = wd
        have HMDx : Hid (MD wd m ao cap us) := by subst hwd; exact Lib.hid (HMDr.out.drewO _)
        have HMMx : Hid (Moved w0 wd m ao0 ao) := by subst hwd; exact Lib.hid (HMMr.out.drewN _)
        have HEx : Hid (VEnv wd (CX m ao) (some ⟨sb, so, none⟩) zs (some ⟨ig, 0, none⟩) icap I ys) := by subst hwd; exact Lib.hid (HEr.out.moved ((Moved.refl wr m ao).drewN _) (fun h0 x hx => Nat.lt_of_lt_of_le (HS0.out h0 x hx) HMMr.out.size))
        have HBx : Hid (wd.heap[w.heap.size]? = some (.cells #[.int .i64 7, .nilIface, .int .i64 bx, .int .i64 be] 123 (0, 0))) := by subst hwd; exact Lib.hid (blk_drewN HBr.out _)
        clear hwd HMDr HMMr HEr HBr
        have HMDr := HMDx
        have HMMr := HMMx
        have HEr := HEx
        have HBr := HBx
        clear HMDx HMMx HEx HBx
        clear hcz kb2 kb3
        by_cases hone : ct = 1
        · subst hone
          have HRN : Hid (res = some (s + 1)) := Lib.hid (HX.out.symm.trans (brace_done hlt HZ.out (by rw [if_pos HQ2.out]; omega)))
          go_wp2_with fail
          go_step3
          refine ⟨rfl, ?_⟩
          have hy := HSS.out _ HRN.out
          exact hy.2.2 _ _ (vj_mk (by omega) (by omega) rfl rfl rfl rfl rfl rfl rfl rfl HEr.out HMDr.out HMMr.out hy.1 hy.2.1 hcp)
        · have hz9 := HZ.out
          rw [byteAt_lt hlt] at hz9
          have hz := hz9
          have t0 : (ct - 1 == 0) = false := beq_eq_false_iff_ne.2 (by omega)
          by_cases hb : z = bx
          · have tb : (z == bx) = true := by simpa using hb
            have HB := Lib.hid hb
            clear hb
            go_wp2_with fail
            obtain ⟨sb', so', ea, hsc⟩ := HEr.out.src (by omega)
            injection ea with ea
            injection ea with ea1 ea2
            subst ea1 ea2
            have hcz := hsc s hlt
            rw [hz] at hcz
            clear hsc
            have kb2 := blk_cell HBr.out 2 _ rfl
            have kb3 := blk_cell HBr.out 3 _ rfl
            go_quiet (fail)
            generalize hwd : World.drewN wd _ = we
            have HMDx : Hid (MD we m ao cap us) := by subst hwd; exact Lib.hid (HMDr.out.drewO _)
            have HMMx : Hid (Moved w0 we m ao0 ao) := by subst hwd; exact Lib.hid (HMMr.out.drewN _)
            have HEx : Hid (VEnv we (CX m ao) (some ⟨sb, so, none⟩) zs (some ⟨ig, 0, none⟩) icap I ys) := by subst hwd; exact Lib.hid (HEr.out.moved ((Moved.refl wd m ao).drewN _) (fun h0 x hx => Nat.lt_of_lt_of_le (HS0.out h0 x hx) HMMr.out.size))
            have HBx : Hid (we.heap[w.heap.size]? = some (.cells #[.int .i64 7, .nilIface, .int .i64 bx, .int .i64 be] 123 (0, 0))) := by subst hwd; exact Lib.hid (blk_drewN HBr.out _)
            clear hwd HMDr HMMr HEr HBr
            have HMDr := HMDx
            have HMMr := HMMx
            have HEr := HEx
            have HBr := HBx
            clear HMDx HMMx HEx HBx
            clear hcz kb2 kb3
            go_wp2_with fail
            go_roundg (zs.length - (s + 1))
            case measure => omega
            case rel => exact ⟨s + 1, ct, rfl, rfl, rfl, rfl, by omega, by omega, by omega, Lib.hid ((brace_on hlt HZ.out (c1 := ct - 1) (by rw [if_pos HQ2.out]) (by omega) (by rw [if_pos HB.out]; try omega)).symm.trans HX.out), HMDr, HMMr, HEr, HBr⟩
          · have tb : (z == bx) = false := by simpa using hb
            have HB := Lib.hid hb
            clear hb
            go_wp2_with fail
            obtain ⟨sb', so', ea, hsc⟩ := HEr.out.src (by omega)
            injection ea with ea
            injection ea with ea1 ea2
            subst ea1 ea2
            have hcz := hsc s hlt
            rw [hz] at hcz
            clear hsc
            have kb2 := blk_cell HBr.out 2 _ rfl
            have kb3 := blk_cell HBr.out 3 _ rfl
            go_quiet (fail)
            generalize hwd : World.drewN wd _ = we
            have HMDx : Hid (MD we m ao cap us) := by subst hwd; exact Lib.hid (HMDr.out.drewO _)
            have HMMx : Hid (Moved w0 we m ao0 ao) := by subst hwd; exact Lib.hid (HMMr.out.drewN _)
            have HEx : Hid (VEnv we (CX m ao) (some ⟨sb, so, none⟩) zs (some ⟨ig, 0, none⟩) icap I ys) := by subst hwd; exact Lib.hid (HEr.out.moved ((Moved.refl wd m ao).drewN _) (fun h0 x hx => Nat.lt_of_lt_of_le (HS0.out h0 x hx) HMMr.out.size))
            have HBx : Hid (we.heap[w.heap.size]? = some (.cells #[.int .i64 7, .nilIface, .int .i64 bx, .int .i64 be] 123 (0, 0))) := by subst hwd; exact Lib.hid (blk_drewN HBr.out _)
            clear hwd HMDr HMMr HEr HBr
            have HMDr := HMDx
            have HMMr := HMMx
            have HEr := HEx
            have HBr := HBx
            clear HMDx HMMx HEx HBx
            clear hcz kb2 kb3
            go_wp2_with fail
            go_roundg (zs.length - (s + 1))
            case measure => omega
            case rel => exact ⟨s + 1, ct - 1, rfl, rfl, rfl, rfl, by omega, by omega, by omega, Lib.hid ((brace_on hlt HZ.out (c1 := ct - 1) (by rw [if_pos HQ2.out]) (by omega) (by rw [if_neg HB.out])).symm.trans HX.out), HMDr, HMMr, HEr, HBr⟩
      · have tq : (z == be) = false := by simpa using hq
        have HQ2 := Lib.hid hq
        clear hq
        go_wp2_with fail
        go_quiet (fail)
        generalize hwd : World.drewN wr _ = wd
        have HMDx : Hid (MD wd m ao cap us) := by subst hwd; exact Lib.hid (HMDr.out.drewO _)
        have HMMx : Hid (Moved w0 wd m ao0 ao) := by subst hwd; exact Lib.hid (HMMr.out.drewN _)
        have HEx : Hid (VEnv wd (CX m ao) (some ⟨sb, so, none⟩) zs (some ⟨ig, 0, none⟩) icap I ys) := by subst hwd; exact Lib.hid (HEr.out.moved ((Moved.refl wr m ao).drewN _) (fun h0 x hx => Nat.lt_of_lt_of_le (HS0.out h0 x hx) HMMr.out.size))
        have HBx : Hid (wd.heap[w.heap.size]? = some (.cells #[.int .i64 7, .nilIface, .int .i64 bx, .int .i64 be] 123 (0, 0))) := by subst hwd; exact Lib.hid (blk_drewN HBr.out _)
        clear hwd HMDr HMMr HEr HBr
        have HMDr := HMDx
        have HMMr := HMMx
        have HEr := HEx
        have HBr := HBx
        clear HMDx HMMx HEx HBx
        clear hcz kb2 kb3
        have hz9 := HZ.out
        rw [byteAt_lt hlt] at hz9
        have hz := hz9
        have t0 : (ct == 0) = false := beq_eq_false_iff_ne.2 (by omega)
        by_cases hb : z = bx
        · have tb : (z == bx) = true := by simpa using hb
          have HB := Lib.hid hb
          clear hb
          go_wp2_with fail
          obtain ⟨sb', so', ea, hsc⟩ := HEr.out.src (by omega)
          injection ea with ea
          injection ea with ea1 ea2
          subst ea1 ea2
          have hcz := hsc s hlt
          rw [hz] at hcz
          clear hsc
          have kb2 := blk_cell HBr.out 2 _ rfl
          have kb3 := blk_cell HBr.out 3 _ rfl
          go_quiet (fail)
          generalize hwd : World.drewN wd _ = we
          have HMDx : Hid (MD we m ao cap us) := by subst hwd; exact Lib.hid (HMDr.out.drewO _)
          have HMMx : Hid (Moved w0 we m ao0 ao) := by subst hwd; exact Lib.hid (HMMr.out.drewN _)
          have HEx : Hid (VEnv we (CX m ao) (some ⟨sb, so, none⟩) zs (some ⟨ig, 0, none⟩) icap I ys) := by subst hwd; exact Lib.hid (HEr.out.moved ((Moved.refl wd m ao).drewN _) (fun h0 x hx => Nat.lt_of_lt_of_le (HS0.out h0 x hx) HMMr.out.size))
          have HBx : Hid (we.heap[w.heap.size]? = some (.cells #[.int .i64 7, .nilIface, .int .i64 bx, .int .i64 be] 123 (0, 0))) := by subst hwd; exact Lib.hid (blk_drewN HBr.out _)
          clear hwd HMDr HMMr HEr HBr
          have HMDr := HMDx
          have HMMr := HMMx
          have HEr := HEx
          have HBr := HBx
          clear HMDx HMMx HEx HBx
          clear hcz kb2 kb3
          go_wp2_with fail
          go_roundg (zs.length - (s + 1))
          case measure => omega
          case rel => exact ⟨s + 1, ct + 1, rfl, rfl, rfl, rfl, by omega, by omega, by omega, Lib.hid ((brace_on hlt HZ.out (c1 := ct) (by rw [if_neg HQ2.out]) (by omega) (by rw [if_pos HB.out]; try omega)).symm.trans HX.out), HMDr, HMMr, HEr, HBr⟩
        · have tb : (z == bx) = false := by simpa using hb
          have HB := Lib.hid hb
          clear hb
          go_wp2_with fail
          obtain ⟨sb', so', ea, hsc⟩ := HEr.out.src (by omega)
          injection ea with ea
          injection ea with ea1 ea2
          subst ea1 ea2
          have hcz := hsc s hlt
          rw [hz] at hcz
          clear hsc
          have kb2 := blk_cell HBr.out 2 _ rfl
          have kb3 := blk_cell HBr.out 3 _ rfl
          go_quiet (fail)
          generalize hwd : World.drewN wd _ = we
          have HMDx : Hid (MD we m ao cap us) := by subst hwd; exact Lib.hid (HMDr.out.drewO _)
          have HMMx : Hid (Moved w0 we m ao0 ao) := by subst hwd; exact Lib.hid (HMMr.out.drewN _)
          have HEx : Hid (VEnv we (CX m ao) (some ⟨sb, so, none⟩) zs (some ⟨ig, 0, none⟩) icap I ys) := by subst hwd; exact Lib.hid (HEr.out.moved ((Moved.refl wd m ao).drewN _) (fun h0 x hx => Nat.lt_of_lt_of_le (HS0.out h0 x hx) HMMr.out.size))
          have HBx : Hid (we.heap[w.heap.size]? = some (.cells #[.int .i64 7, .nilIface, .int .i64 bx, .int .i64 be] 123 (0, 0))) := by subst hwd; exact Lib.hid (blk_drewN HBr.out _)
          clear hwd HMDr HMMr HEr HBr
          have HMDr := HMDx
          have HMMr := HMMx
          have HEr := HEx
          have HBr := HBx
          clear HMDx HMMx HEx HBx
          clear hcz kb2 kb3
          go_wp2_with fail
          go_roundg (zs.length - (s + 1))
          case measure => omega
          case rel => exact ⟨s + 1, ct, rfl, rfl, rfl, rfl, by omega, by omega, by omega, Lib.hid ((brace_on hlt HZ.out (c1 := ct) (by rw [if_neg HQ2.out]) (by omega) (by rw [if_neg HB.out])).symm.trans HX.out), HMDr, HMMr, HEr, HBr⟩
    · obtain rfl : s = zs.length := by omega
      have tl : decide ((zs.length : Int) < (zs.length : Int)) = false := decide_eq_false (by omega)
      have HN := HNN.out (HX.out.symm.trans (brace_end (Nat.le_refl _)))
      go_wp2_with fail
      rw [HN]
      exact ⟨rfl, rfl, rfl, rfl, _, _, HMDr.out, HMMr.out⟩



theorem capz_any {w : World} {m cap : Nat} {ao : Option Addr} {us : List Int} {iz : Int} (i : Nat) (v : Int) (hz : iz = (i : Int)) (h : MD w m ao cap us) (hi : i < us.length) (hv : Hid (us.getD i 0 / 2 = v)) :
    Calls Tryf.prog 9 #[.pointer (some ⟨m, 0, none⟩), .int .i64 iz] w fun e w' => e = .returned (.int .i64 v) ∧ w = w' := by subst hz; exact cap_is i v h hi hv
set_option maxHeartbeats 4000000 in
set_option maxRecDepth 1000000 in
theorem vm_num {w0 w : World} {m : Nat} {ao0 ao : Option Addr} {cap : Nat} {us : List Int} {sao : Option Addr} {scap : Nat} {zs : List Int} {iao : Option Addr} {icap : Nat} {I : List Ins} {ys : List Value} {rc d pc sp nn : Nat} {r : Bool × Nat × List Int} {J : Act → World → Prop}
    (he : VEnv w (CX m ao) sao zs iao icap I ys) (hs0 : 0 < zs.length → ∀ x, sao = some x → x.block < w0.heap.size) (hmd : MD w m ao cap us) (hm0 : Moved w0 w m ao0 ao) (hsp : sp ≤ zs.length) (hcp : zs.length ≤ scap) (hrc : rc + d ≤ 1000000)
    (hJ : True)
    {k : Nat} (hi : I[pc]? = some (.num (k : Int))) (hk : k * 2 + 1 < us.length) (hle : capV us (k * 2) ≤ capV us (k * 2 + 1)) (hhi : capV us (k * 2 + 1) ≤ zs.length) (hY : (∀ i : Nat, i < capV us (k * 2 + 1) - capV us (k * 2) → byteAt zs (sp + i) = byteAt zs (capV us (k * 2) + i)) → VRun zs I d nn (pc + 1) (sp + (capV us (k * 2 + 1) - capV us (k * 2))) us r ∧ ∀ a' w', VJ w0 m ao0 sao scap zs iao icap I ys rc d r nn a' w' → J a' w') (hN : ∀ i : Nat, i < capV us (k * 2 + 1) - capV us (k * 2) → byteAt zs (sp + i) ≠ byteAt zs (capV us (k * 2) + i) → r = (false, sp, us)) (f : Nat → Value) :
    vmRest.wp Tryf.prog (Exit.jump 0 J (VQ w0 m ao0 r)) { tmps := #[.slice sao zs.length scap, .slice iao I.length icap, .int .i64 pc, .int .i64 sp, .int .i64 rc, f 5, f 6, f 7, f 8, f 9, f 10, f 11, f 12, f 13, f 14, .pointer (some ⟨m, 0, none⟩), f 16, f 17, f 18, f 19, f 20, f 21, f 22, f 23, f 24, f 25, f 26, f 27, f 28, f 29, f 30, f 31, f 32, f 33, f 34, f 35, f 36, f 37, f 38, f 39, f 40, f 41, f 42, f 43, f 44, f 45, f 46, f 47, f 48, f 49, f 50, f 51, f 52, f 53, f 54, f 55, f 56, f 57, f 58, f 59, f 60, f 61, f 62, f 63, f 64, f 65, f 66, f 67, f 68, f 69, f 70, f 71, f 72, f 73, f 74, f 75, f 76, f 77, f 78, f 79, f 80, f 81, f 82, f 83, f 84, f 85, f 86, f 87, f 88, f 89, f 90, f 91, f 92, f 93, f 94, f 95, f 96, f 97, f 98, f 99, f 100, f 101, f 102, f 103, f 104, f 105, f 106, f 107, f 108, f 109, f 110, f 111, f 112, f 113, f 114, f 115, f 116, f 117, f 118, f 119, f 120, f 121, f 122, f 123, f 124, f 125, f 126, f 127, f 128, f 129, f 130, f 131, f 132, f 133, f 134, f 135, f 136, f 137, f 138, f 139, f 140, f 141, f 142, f 143, f 144, f 145, f 146, f 147, f 148, f 149, f 150, f 151, f 152, f 153, f 154, f 155, f 156, f 157, f 158, f 159, f 160, f 161, f 162, f 163, f 164, f 165, f 166, f 167, f 168, f 169, f 170, f 171, f 172, f 173, f 174, f 175, f 176, f 177, f 178, f 179, f 180, f 181, f 182, f 183, f 184, f 185, f 186, f 187, f 188, f 189, f 190, f 191, f 192, f 193, f 194, f 195, f 196, f 197, f 198, f 199, f 200, f 201, f 202, f 203, f 204, f 205, f 206, f 207, f 208, f 209, f 210, f 211, f 212, f 213, f 214, f 215, f 216, f 217, f 218, f 219, f 220, f 221, f 222, f 223, f 224, f 225, f 226, f 227, f 228, f 229, f 230, f 231, f 232, f 233, f 234, f 235, f 236, f 237, f 238, f 239, f 240, f 241, f 242, f 243, f 244, f 245, f 246, f 247, f 248, f 249, f 250, f 251, f 252, f 253, f 254, f 255, f 256], defers := [] } w := by
  obtain ⟨ig, xs, rfl, hins, hpc, hmx, c0, c1, c2, c3⟩ := he.ins hi
  have hpci : (pc : Int) < (I.length : Int) := by omega
  have hlen := he.len
  cases hins with
  | num =>
  simp only [List.getElem?_cons_zero, List.getElem?_cons_succ] at c0 c1 c2 c3
  have HY := hY
  have HN := hN
  clear hY hN
  have hsl : 0 < zs.length → ∀ x : Addr, sao = some x → x.block < w.heap.size := fun h0 x hx => Nat.lt_of_lt_of_le (hs0 h0 x hx) hm0.size
  have HM1 := Lib.hid ((Moved.refl w m ao).alloc (.cells #[.int .i64 8, .nilIface, .int .i64 (k : Int), .int .i64 (-1)] 123))
  have HE1 := Lib.hid (he.moved HM1.out hsl)
  have HMD1 := Lib.hid (hmd.allocO (.cells #[.int .i64 8, .nilIface, .int .i64 (k : Int), .int .i64 (-1)] 123))
  have HMM1 := Lib.hid (hm0.trans HM1.out)
  have HBK := Lib.hid (blk_new w (.cells #[.int .i64 8, .nilIface, .int .i64 (k : Int), .int .i64 (-1)] 123))
  have HSL : Hid (0 < zs.length → ∀ x : Addr, sao = some x → x.block < (w.alloc (.cells #[.int .i64 8, .nilIface, .int .i64 (k : Int), .int .i64 (-1)] 123)).heap.size) := Lib.hid (fun h0 x hx => Nat.lt_of_lt_of_le (hsl h0 x hx) HM1.out.size)
  have HJ := Lib.hid hJ
  have HS0 := Lib.hid hs0
  have HI := Lib.hid hi
  clear he hs0 hmd hm0 hJ hsl HM1 hi
  conv => arg 2; whnf
  obtain ⟨lo, hlo⟩ : ∃ lo, capV us (k * 2) = lo := ⟨_, rfl⟩
  obtain ⟨hh, hhh⟩ : ∃ hh, capV us (k * 2 + 1) = hh := ⟨_, rfl⟩
  have HLO : Hid (us.getD (k * 2) 0 / 2 = (lo : Int)) := Lib.hid (by have := (HMD1.out.word (k * 2)).1; unfold capV at hlo; omega)
  have HHI : Hid (us.getD (k * 2 + 1) 0 / 2 = (hh : Int)) := Lib.hid (by have := (HMD1.out.word (k * 2 + 1)).1; unfold capV at hhh; omega)
  rw [hlo, hhh] at hle HY HN
  rw [hhh] at hhi
  have hul := HMD1.out.len
  have hk30 : k ≤ 1073741824 := by omega
  have tc : decide ((us.length : Int) - 1 ≤ (k : Int) * 2) = false := decide_eq_false (by omega)
  have kb2 : (w.alloc (.cells #[.int .i64 8, .nilIface, .int .i64 (k : Int), .int .i64 (-1)] 123)).cell? ⟨w.heap.size, 2, none⟩ = some (.int .i64 (k : Int)) := blk_cell HBK.out 2 _ rfl
  obtain ⟨L, hL⟩ : ∃ L, hh = lo + L := ⟨hh - lo, by omega⟩
  subst hL
  rw [show lo + L - lo = L by omega] at HY HN
  have HYY := Lib.hid HY
  have HNN := Lib.hid HN
  clear HY HN hlo hhh
  go_upto_region 53 with (fail)
  generalize w.alloc (.cells #[.int .i64 8, .nilIface, .int .i64 (k : Int), .int .i64 (-1)] 123) = w1 at *
  go_wp2_with fail
  refine (capLen_any HMD1.out).mono ?_
  rintro e w1' ⟨rfl, rfl⟩
  go_wp2_with fail
  refine (capz_any (k * 2) (lo : Int) (by omega) HMD1.out (by omega) HLO).mono ?_
  rintro e w1' ⟨rfl, rfl⟩
  go_wp2_with fail
  refine (capz_any (k * 2 + 1) ((lo + L : Nat) : Int) (by omega) HMD1.out (by omega) HHI).mono ?_
  rintro e w1' ⟨rfl, rfl⟩
  have hs1 : (lo : Int) + (L : Int) ≤ (scap : Int) := by omega
  have hs2 : (lo : Int) ≤ (lo : Int) + (L : Int) := by omega
  rcases Nat.eq_zero_or_pos L with hL0 | hL0
  · subst hL0
    rcases Nat.lt_or_ge lo scap with hs3 | hs3
    · have hs4 : (lo : Int) < (scap : Int) := by omega
      go_wp2_with fail
      go_loopg [27] 0 (fun n v wr => n = 0 ∧ v = .int .i64 0 ∧ wr = w1)
      case atStart => exact ⟨rfl, rfl, rfl⟩
      case round =>
        obtain ⟨rfl, rfl, rfl⟩ := hrel
        go_wp2_with fail
        go_step3
        refine ⟨rfl, ?_⟩
        have hy := HYY.out (fun i hi => by omega)
        exact hy.2 _ _ (vj_mk (by omega) (by omega) rfl rfl rfl rfl rfl rfl rfl rfl HE1.out HMD1.out HMM1.out hy.1 (by omega) hcp)
    · obtain rfl : scap = lo := by omega
      go_wp2_with fail
      go_loopg [27] 0 (fun n v wr => n = 0 ∧ v = .int .i64 0 ∧ wr = w1)
      case atStart => exact ⟨rfl, rfl, rfl⟩
      case round =>
        obtain ⟨rfl, rfl, rfl⟩ := hrel
        go_wp2_with fail
        go_step3
        refine ⟨rfl, ?_⟩
        have hy := HYY.out (fun i hi => by omega)
        exact hy.2 _ _ (vj_mk (by omega) (by omega) rfl rfl rfl rfl rfl rfl rfl rfl HE1.out HMD1.out HMM1.out hy.1 (by omega) hcp)
  · have hs3 : lo < scap := by omega
    have hs4 : (lo : Int) < (scap : Int) := by omega
    obtain ⟨sb, so, rfl, -⟩ := HE1.out.src (by omega)
    go_wp2_with fail
    rw [show lo + L - lo = L from by omega]
    go_loopg [27] L (fun n v wr => ∃ i : Nat, n = L - i ∧ i ≤ L ∧ v = .int .i64 (i : Int) ∧ sp + i ≤ zs.length ∧ Hid (∀ j, j < i → byteAt zs (sp + j) = byteAt zs (lo + j)) ∧ Hid (MD wr m ao cap us) ∧ Hid (Moved w0 wr m ao0 ao) ∧ Hid (VEnv wr (CX m ao) (some ⟨sb, so, none⟩) zs (some ⟨ig, 0, none⟩) icap I ys))
    case atStart => exact ⟨0, rfl, by omega, rfl, by omega, Lib.hid (fun j hj => by omega), HMD1, HMM1, HE1⟩
    case round =>
      obtain ⟨i, rfl, hi, rfl, hsi, HA, HMDr, HMMr, HEr⟩ := hrel
      by_cases hlt : i < L
      · have ti : decide ((i : Int) < (L : Int)) = true := decide_eq_true (by omega)
        have hLi : (i : Int) < (L : Int) := by omega
        obtain ⟨sb', so', ea, hsc⟩ := HEr.out.src (by omega)
        injection ea with ea
        injection ea with ea1 ea2
        subst ea1 ea2
        obtain ⟨y, hy⟩ : ∃ y, zs.getD (lo + i) 0 = y := ⟨_, rfl⟩
        have hcy := hsc (lo + i) (by omega)
        rw [hy, ← Nat.add_assoc] at hcy
        have HYZ : Hid (byteAt zs (lo + i) = y) := Lib.hid ((byteAt_lt (by omega)).trans hy)
        have h2 : (0 : Int) ≤ (i : Int) + (sp : Int) := by omega
        have h3 : IntKind.i64.wrap ((i : Int) + (sp : Int)) = (i : Int) + (sp : Int) := by rw [IntWalk.i64_in _ (by omega)]
        have h4 : ((i : Int) + (sp : Int)).toNat = i + sp := by omega
        clear hy
        by_cases hin : i + sp < zs.length
        · have h1 : (i : Int) + (sp : Int) < (zs.length : Int) := by omega
          have tg : decide ((zs.length : Int) ≤ (i : Int) + (sp : Int)) = false := decide_eq_false (by omega)
          obtain ⟨z, hz⟩ : ∃ z, zs.getD (i + sp) 0 = z := ⟨_, rfl⟩
          have hcz := hsc (i + sp) (by omega)
          rw [hz] at hcz
          have HZZ : Hid (byteAt zs (sp + i) = z) := Lib.hid (by rw [Nat.add_comm sp i]; exact (byteAt_lt (by omega)).trans hz)
          clear hz hsc
          by_cases hq : y = z
          · have tq : (y != z) = false := by simpa using hq
            have HQ := Lib.hid hq
            clear hq
            go_wp2_with fail
            go_quiet (fail)
            generalize hwd : World.drewN wr _ = wd
            have HMDx : Hid (MD wd m ao cap us) := by subst hwd; exact Lib.hid (HMDr.out.drewO _)
            have HMMx : Hid (Moved w0 wd m ao0 ao) := by subst hwd; exact Lib.hid (HMMr.out.drewN _)
            have HEx : Hid (VEnv wd (CX m ao) (some ⟨sb, so, none⟩) zs (some ⟨ig, 0, none⟩) icap I ys) := by subst hwd; exact Lib.hid (HEr.out.moved ((Moved.refl wr m ao).drewN _) (fun h0 x hx => Nat.lt_of_lt_of_le (HS0.out h0 x hx) HMMr.out.size))
            clear hwd h3 h4
            go_wp2_with fail
            go_roundg (L - (i + 1))
            case measure => omega
            case rel => exact ⟨i + 1, rfl, by omega, rfl, by omega, Lib.hid (fun j hj => by
              rcases Nat.lt_or_ge j i with h | h
              · exact HA.out j h
              · obtain rfl : j = i := by omega
                rw [HZZ.out, HYZ.out, HQ.out]), HMDx, HMMx, HEx⟩
          · have tq : (y != z) = true := by simpa using hq
            have HQ := Lib.hid hq
            clear hq
            go_wp2_with fail
            go_quiet (fail)
            generalize hwd : World.drewN wr _ = wd
            have HMDx : Hid (MD wd m ao cap us) := by subst hwd; exact Lib.hid (HMDr.out.drewO _)
            have HMMx : Hid (Moved w0 wd m ao0 ao) := by subst hwd; exact Lib.hid (HMMr.out.drewN _)
            have HEx : Hid (VEnv wd (CX m ao) (some ⟨sb, so, none⟩) zs (some ⟨ig, 0, none⟩) icap I ys) := by subst hwd; exact Lib.hid (HEr.out.moved ((Moved.refl wr m ao).drewN _) (fun h0 x hx => Nat.lt_of_lt_of_le (HS0.out h0 x hx) HMMr.out.size))
            clear hwd h3 h4
            go_wp2_with fail
            rw [HNN.out i hlt (by rw [HZZ.out, HYZ.out]; exact fun e => HQ.out e.symm)]
            exact ⟨rfl, rfl, rfl, rfl, _, _, HMDx.out, HMMx.out⟩
        · have tg : decide ((zs.length : Int) ≤ (i : Int) + (sp : Int)) = true := decide_eq_true (by omega)
          clear hsc
          go_wp2_with fail
          go_quiet (fail)
          generalize hwd : World.drewN wr _ = wd
          have HMDx : Hid (MD wd m ao cap us) := by subst hwd; exact Lib.hid (HMDr.out.drewO _)
          have HMMx : Hid (Moved w0 wd m ao0 ao) := by subst hwd; exact Lib.hid (HMMr.out.drewN _)
          have HEx : Hid (VEnv wd (CX m ao) (some ⟨sb, so, none⟩) zs (some ⟨ig, 0, none⟩) icap I ys) := by subst hwd; exact Lib.hid (HEr.out.moved ((Moved.refl wr m ao).drewN _) (fun h0 x hx => Nat.lt_of_lt_of_le (HS0.out h0 x hx) HMMr.out.size))
          clear hwd h3 h4
          go_wp2_with fail
          have hneg : byteAt zs (sp + i) ≠ byteAt zs (lo + i) := by
            rw [HYZ.out]
            unfold byteAt
            rw [if_neg (by omega)]
            have h0 := HYZ.out
            rw [byteAt_lt (by omega)] at h0
            have := (getD_byte HEx.out.byte (lo + i)).1
            omega
          rw [HNN.out i hlt hneg]
          exact ⟨rfl, rfl, rfl, rfl, _, _, HMDx.out, HMMx.out⟩
      · obtain rfl : i = L := by omega
        have ti : decide ((i : Int) < (i : Int)) = false := decide_eq_false (by omega)
        go_wp2_with fail
        go_step3
        refine ⟨rfl, ?_⟩
        have hy := HYY.out (fun j hj => HA.out j hj)
        exact hy.2 _ _ (vj_mk (by omega) (by omega) rfl rfl rfl rfl rfl rfl rfl rfl HEr.out HMDr.out HMMr.out hy.1 hsi hcp)


end Go.Proofs.YtcfhhcjcnafcjaaFmt
