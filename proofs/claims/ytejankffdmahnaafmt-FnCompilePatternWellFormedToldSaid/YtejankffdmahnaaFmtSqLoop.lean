/-
  The loop of n005_60's zzSeq, its rounds joined, and zzSeq's contract: what it accepts the parser makes whole. Its condition: the place lies in the pattern; the pattern has at most 2^22 bytes.
-/
import Derived.Test.YtejankffdmahnaaFmtSqSmall
import Derived.Test.YtejankffdmahnaaFmtSqBrace
import Derived.Test.YtejankffdmahnaaFmtSqCaps
import Derived.Test.YtejankffdmahnaaFmtSqQuant
import Derived.Test.YtejankffdmahnaaFmtSqQuantLitA
import Derived.Test.YtejankffdmahnaaFmtSqQuantLitB
import Derived.Test.YtejankffdmahnaaFmtSqDollar
import Derived.Test.YtejankffdmahnaaFmtSqClassA
import Derived.Test.YtejankffdmahnaaFmtSqClassB
import Derived.Test.YtejankffdmahnaaFmtHelp60
import Derived.Deep.LoopGhost
namespace Go.Proofs.YtejankffdmahnaaFmt
open Go.RowKit
set_option linter.unusedVariables false
set_option linter.unusedSimpArgs false

theorem sarr_range (xs : Array Value) (n : Nat) (h : xs.size = n) (g : Nat → Value) (hg : ∀ k, k < n → xs[k]? = some (g k)) : xs = ((List.range n).map g).toArray := by
  apply Array.ext
  · simp [h]
  · intro i h1 h2
    have := hg i (by omega)
    rw [Array.getElem?_eq_getElem h1] at this
    simpa using this
set_option maxRecDepth 1000000 in
theorem slit_range (g : Nat → Value) : ((List.range 253).map g).toArray = #[g 0, g 1, g 2, g 3, g 4, g 5, g 6, g 7, g 8, g 9, g 10, g 11, g 12, g 13, g 14, g 15, g 16, g 17, g 18, g 19, g 20, g 21, g 22, g 23, g 24, g 25, g 26, g 27, g 28, g 29, g 30, g 31, g 32, g 33, g 34, g 35, g 36, g 37, g 38, g 39, g 40, g 41, g 42, g 43, g 44, g 45, g 46, g 47, g 48, g 49, g 50, g 51, g 52, g 53, g 54, g 55, g 56, g 57, g 58, g 59, g 60, g 61, g 62, g 63, g 64, g 65, g 66, g 67, g 68, g 69, g 70, g 71, g 72, g 73, g 74, g 75, g 76, g 77, g 78, g 79, g 80, g 81, g 82, g 83, g 84, g 85, g 86, g 87, g 88, g 89, g 90, g 91, g 92, g 93, g 94, g 95, g 96, g 97, g 98, g 99, g 100, g 101, g 102, g 103, g 104, g 105, g 106, g 107, g 108, g 109, g 110, g 111, g 112, g 113, g 114, g 115, g 116, g 117, g 118, g 119, g 120, g 121, g 122, g 123, g 124, g 125, g 126, g 127, g 128, g 129, g 130, g 131, g 132, g 133, g 134, g 135, g 136, g 137, g 138, g 139, g 140, g 141, g 142, g 143, g 144, g 145, g 146, g 147, g 148, g 149, g 150, g 151, g 152, g 153, g 154, g 155, g 156, g 157, g 158, g 159, g 160, g 161, g 162, g 163, g 164, g 165, g 166, g 167, g 168, g 169, g 170, g 171, g 172, g 173, g 174, g 175, g 176, g 177, g 178, g 179, g 180, g 181, g 182, g 183, g 184, g 185, g 186, g 187, g 188, g 189, g 190, g 191, g 192, g 193, g 194, g 195, g 196, g 197, g 198, g 199, g 200, g 201, g 202, g 203, g 204, g 205, g 206, g 207, g 208, g 209, g 210, g 211, g 212, g 213, g 214, g 215, g 216, g 217, g 218, g 219, g 220, g 221, g 222, g 223, g 224, g 225, g 226, g 227, g 228, g 229, g 230, g 231, g 232, g 233, g 234, g 235, g 236, g 237, g 238, g 239, g 240, g 241, g 242, g 243, g 244, g 245, g 246, g 247, g 248, g 249, g 250, g 251, g 252] := by kernel_rfl
set_option maxRecDepth 1000000 in
theorem sframe_lit (xs : Array Value) (h : xs.size = 253) {v0 v1 v2 v11 v12 v13 v14 : Value} (h0 : xs[0]? = some v0) (h1 : xs[1]? = some v1) (h2 : xs[2]? = some v2) (h11 : xs[11]? = some v11) (h12 : xs[12]? = some v12) (h13 : xs[13]? = some v13) (h14 : xs[14]? = some v14) : ∃ f : Nat → Value, xs = #[v0, v1, v2, f 3, f 4, f 5, f 6, f 7, f 8, f 9, f 10, v11, v12, v13, v14, f 15, f 16, f 17, f 18, f 19, f 20, f 21, f 22, f 23, f 24, f 25, f 26, f 27, f 28, f 29, f 30, f 31, f 32, f 33, f 34, f 35, f 36, f 37, f 38, f 39, f 40, f 41, f 42, f 43, f 44, f 45, f 46, f 47, f 48, f 49, f 50, f 51, f 52, f 53, f 54, f 55, f 56, f 57, f 58, f 59, f 60, f 61, f 62, f 63, f 64, f 65, f 66, f 67, f 68, f 69, f 70, f 71, f 72, f 73, f 74, f 75, f 76, f 77, f 78, f 79, f 80, f 81, f 82, f 83, f 84, f 85, f 86, f 87, f 88, f 89, f 90, f 91, f 92, f 93, f 94, f 95, f 96, f 97, f 98, f 99, f 100, f 101, f 102, f 103, f 104, f 105, f 106, f 107, f 108, f 109, f 110, f 111, f 112, f 113, f 114, f 115, f 116, f 117, f 118, f 119, f 120, f 121, f 122, f 123, f 124, f 125, f 126, f 127, f 128, f 129, f 130, f 131, f 132, f 133, f 134, f 135, f 136, f 137, f 138, f 139, f 140, f 141, f 142, f 143, f 144, f 145, f 146, f 147, f 148, f 149, f 150, f 151, f 152, f 153, f 154, f 155, f 156, f 157, f 158, f 159, f 160, f 161, f 162, f 163, f 164, f 165, f 166, f 167, f 168, f 169, f 170, f 171, f 172, f 173, f 174, f 175, f 176, f 177, f 178, f 179, f 180, f 181, f 182, f 183, f 184, f 185, f 186, f 187, f 188, f 189, f 190, f 191, f 192, f 193, f 194, f 195, f 196, f 197, f 198, f 199, f 200, f 201, f 202, f 203, f 204, f 205, f 206, f 207, f 208, f 209, f 210, f 211, f 212, f 213, f 214, f 215, f 216, f 217, f 218, f 219, f 220, f 221, f 222, f 223, f 224, f 225, f 226, f 227, f 228, f 229, f 230, f 231, f 232, f 233, f 234, f 235, f 236, f 237, f 238, f 239, f 240, f 241, f 242, f 243, f 244, f 245, f 246, f 247, f 248, f 249, f 250, f 251, f 252] := by
  have hf : ∀ k, k < 253 → xs[k]? = some (xs.getD k .nilIface) := fun k hk => by
    rw [Array.getD_eq_getD_getElem?, Array.getElem?_eq_getElem (by omega)]; rfl
  refine ⟨fun k => xs.getD k .nilIface, ?_⟩
  have e := (sarr_range xs 253 h _ hf).trans (slit_range _)
  have e0 : xs.getD 0 .nilIface = v0 := by rw [Array.getD_eq_getD_getElem?, h0]; rfl
  have e1 : xs.getD 1 .nilIface = v1 := by rw [Array.getD_eq_getD_getElem?, h1]; rfl
  have e2 : xs.getD 2 .nilIface = v2 := by rw [Array.getD_eq_getD_getElem?, h2]; rfl
  have e11 : xs.getD 11 .nilIface = v11 := by rw [Array.getD_eq_getD_getElem?, h11]; rfl
  have e12 : xs.getD 12 .nilIface = v12 := by rw [Array.getD_eq_getD_getElem?, h12]; rfl
  have e13 : xs.getD 13 .nilIface = v13 := by rw [Array.getD_eq_getD_getElem?, h13]; rfl
  have e14 : xs.getD 14 .nilIface = v14 := by rw [Array.getD_eq_getD_getElem?, h14]; rfl
  subst e0 e1 e2 e11 e12 e13 e14
  exact e
set_option maxRecDepth 1000000 in
theorem sq_end {w wr : World} {s : ByteArray} {top must : Bool} {i c : Nat} {acc : List Pt} {ao : Option Addr} {cap : Nat} {hd tlq : Bool} {K : Act → World → Prop} (hs : s.size ≤ 4194304) (hkr : KRow wr w.heap.size ao cap acc) (hb : Below w.heap.size w wr)
    (hcont : ∀ r, PRun (bz s) top c acc tlq r → PTop (bz s) top i must r) (hle : acc.length ≤ c) (hc : s.size ≤ c) (hcb : c ≤ s.size + 1) (f : Nat → Value) :
    sqBody.wp Tryf.prog (Exit.then K (SQ w s top must i)) { tmps := #[.string s, .int .i64 (s.size : Int), .bool top, f 3, f 4, f 5, f 6, f 7, f 8, f 9, f 10, .int .i64 (s.size : Int), .slice ao acc.length cap, .bool hd, .bool tlq, f 15, f 16, f 17, f 18, f 19, f 20, f 21, f 22, f 23, f 24, f 25, f 26, f 27, f 28, f 29, f 30, f 31, f 32, f 33, f 34, f 35, f 36, f 37, f 38, f 39, f 40, f 41, f 42, f 43, f 44, f 45, f 46, f 47, f 48, f 49, f 50, f 51, f 52, f 53, f 54, f 55, f 56, f 57, f 58, f 59, f 60, f 61, f 62, f 63, f 64, f 65, f 66, f 67, f 68, f 69, f 70, f 71, f 72, f 73, f 74, f 75, f 76, f 77, f 78, f 79, f 80, f 81, f 82, f 83, f 84, f 85, f 86, f 87, f 88, f 89, f 90, f 91, f 92, f 93, f 94, f 95, f 96, f 97, f 98, f 99, f 100, f 101, f 102, f 103, f 104, f 105, f 106, f 107, f 108, f 109, f 110, f 111, f 112, f 113, f 114, f 115, f 116, f 117, f 118, f 119, f 120, f 121, f 122, f 123, f 124, f 125, f 126, f 127, f 128, f 129, f 130, f 131, f 132, f 133, f 134, f 135, f 136, f 137, f 138, f 139, f 140, f 141, f 142, f 143, f 144, f 145, f 146, f 147, f 148, f 149, f 150, f 151, f 152, f 153, f 154, f 155, f 156, f 157, f 158, f 159, f 160, f 161, f 162, f 163, f 164, f 165, f 166, f 167, f 168, f 169, f 170, f 171, f 172, f 173, f 174, f 175, f 176, f 177, f 178, f 179, f 180, f 181, f 182, f 183, f 184, f 185, f 186, f 187, f 188, f 189, f 190, f 191, f 192, f 193, f 194, f 195, f 196, f 197, f 198, f 199, f 200, f 201, f 202, f 203, f 204, f 205, f 206, f 207, f 208, f 209, f 210, f 211, f 212, f 213, f 214, f 215, f 216, f 217, f 218, f 219, f 220, f 221, f 222, f 223, f 224, f 225, f 226, f 227, f 228, f 229, f 230, f 231, f 232, f 233, f 234, f 235, f 236, f 237, f 238, f 239, f 240, f 241, f 242, f 243, f 244, f 245, f 246, f 247, f 248, f 249, f 250, f 251, f 252], defers := [] } wr := by
  have HKR := Lib.hid hkr
  have HB := Lib.hid hb
  have HC := Lib.hid hcont
  clear hkr hb hcont
  have t0 : decide ((s.size : Int) < (s.size : Int)) = false := decide_eq_false (by omega)
  conv => arg 2; whnf
  go_wp2_with fail
  refine ⟨rfl, ⟨rfl, rfl, rfl, rfl, rfl⟩, c, hc, acc, ao, cap, hd, tlq, ?_, ?_, ?_, ?_, ?_, ?_, ?_, ?_, ?_⟩
  · exact int_is (by omega)
  · rfl
  · rfl
  · rfl
  · exact HKR.out
  · exact HB.out
  · exact HC.out
  · exact hle
  · exact hcb
theorem clsEnd_esc {s : ByteArray} {c : Nat} {top tlq : Bool} {acc : List Pt} (h37 : chr (bz s) c = 37) (hlt : c < s.size) (hd1 : ¬ (48 ≤ chr (bz s) (c + 1) ∧ chr (bz s) (c + 1) ≤ 57)) (hd2 : chr (bz s) (c + 1) ≠ 98) :
    clsEnd s c = some (min (c + 2) s.size) ∧ ∀ j, some (min (c + 2) s.size) = some j → ∃ (c' : Nat) (p : Pt), c < c' ∧ c' ≤ s.size + 1 ∧ j = min c' s.size ∧ kd p = 1 ∧ ∀ r', PRun (bz s) top c' (acc ++ [p]) tlq r' → PRun (bz s) top c acc tlq r' := by
  refine ⟨by unfold clsEnd; rw [if_pos h37], fun j hj => ?_⟩
  injection hj with hj
  exact ⟨c + 2, .one (.el (.sgl (chr (bz s) (c + 1)))), by omega, by omega, hj.symm, rfl, fun r' h => .esc h37 hd1 hd2 h⟩
theorem negB_chr {s : ByteArray} {i : Nat} : negB s i = decide (chr (bz s) i = 94) := by
  by_cases h : i < s.size
  · rw [negB_lt h, bz_chr s i h]
    rw [Bool.eq_iff_iff]
    simp
  · rw [negB_ge h]
    have : chr (bz s) i = -1 := by unfold chr; rw [if_neg (by rw [bz_length]; exact h)]
    rw [this]
    rfl
theorem set_acc {s : ByteArray} {c j : Nat} (h : accSet (bz s) (stS s c) false = some j) : ∃ cl, parseSet (bz s) c = some (cl, j) := by
  have hl := setLoop_acc (bz s) (stS s c) [] false
  rw [show (decide (([] : List El) ≠ [])) = false by simp, h] at hl
  obtain ⟨r, hr, hc⟩ := Option.map_eq_some_iff.1 hl
  unfold stS at hr
  rw [negB_chr] at hr
  unfold parseSet
  by_cases h94 : chr (bz s) c = 94
  · rw [if_pos (by simp [h94])] at hr
    rw [if_pos h94, hr, ← hc]
    exact ⟨_, rfl⟩
  · rw [if_neg (by simp [h94])] at hr
    rw [if_neg h94, hr, ← hc]
    exact ⟨_, rfl⟩
theorem clsEnd_not {s : ByteArray} {c : Nat} {top tlq : Bool} {acc : List Pt} (hlt : c < s.size) (hne : ∀ k, k ∈ [41, 40, 42, 43, 45, 63, 36] → s[c].toNat ≠ k) (h37 : s[c].toNat ≠ 37) :
    ∀ j, clsEnd s c = some j → ∃ (c' : Nat) (p : Pt), c < c' ∧ c' ≤ s.size + 1 ∧ j = min c' s.size ∧ kd p = 1 ∧ ∀ r', PRun (bz s) top c' (acc ++ [p]) tlq r' → PRun (bz s) top c acc tlq r' := by
  intro j hj
  have hz := bz_chr s c hlt
  have h37' : chr (bz s) c ≠ 37 := by rw [hz]; omega
  unfold clsEnd at hj
  rw [if_neg h37'] at hj
  by_cases h91 : chr (bz s) c = 91
  · rw [if_pos h91] at hj
    obtain ⟨cl, hcl⟩ := set_acc hj
    have hjl := accSet_le hj
    have hst : c + 1 ≤ stS s (c + 1) := by unfold stS; split <;> omega
    rw [bz_length] at hjl
    have hpc : parseCls (bz s) c = some (cl, j) := by
      unfold parseCls
      rw [if_neg (by rw [bz_length]; omega), if_neg h37', if_neg (by rw [h91]; decide), if_pos h91, hcl]
    exact ⟨j, .one cl, by omega, by omega, by omega, rfl, fun r' h => .cls (.inr (.inl h91)) hpc h⟩
  · rw [if_neg h91] at hj
    injection hj with hj
    subst hj
    by_cases h46 : chr (bz s) c = 46
    · have hpc : parseCls (bz s) c = some (.dot, c + 1) := by
        unfold parseCls
        rw [if_neg (by rw [bz_length]; omega), if_neg h37', if_pos h46]
      exact ⟨c + 1, .one .dot, by omega, by omega, by omega, rfl, fun r' h => .cls (.inl h46) hpc h⟩
    · by_cases h93 : chr (bz s) c = 93
      · have hpc : parseCls (bz s) c = some (.el (.chr (chr (bz s) c)), c + 1) := by
          unfold parseCls
          rw [if_neg (by rw [bz_length]; omega), if_neg h37', if_neg h46, if_neg h91]
        exact ⟨c + 1, .one (.el (.chr (chr (bz s) c))), by omega, by omega, by omega, rfl, fun r' h => .cls (.inr (.inr h93)) hpc h⟩
      · refine ⟨c + 1, .one (.el (.chr (chr (bz s) c))), by omega, by omega, by omega, rfl, fun r' h => .lit (by rw [bz_length]; exact hlt) (fun z hz2 => ?_) h⟩
        have q1 := hne 41 (by simp)
        have q2 := hne 40 (by simp)
        have q3 := hne 42 (by simp)
        have q4 := hne 43 (by simp)
        have q5 := hne 45 (by simp)
        have q6 := hne 63 (by simp)
        have q7 := hne 36 (by simp)
        rw [hz] at h91 h46 h93 h37' ⊢
        simp only [List.mem_cons, List.not_mem_nil, or_false] at hz2
        rcases hz2 with rfl | rfl | rfl | rfl | rfl | rfl | rfl | rfl | rfl | rfl | rfl <;> omega
theorem last_one (acc : List Pt) : (∃ a cl, acc = a ++ [Pt.one cl]) ∨ ∀ a cl, acc ≠ a ++ [Pt.one cl] := by
  by_cases h : ∃ a cl, acc = a ++ [Pt.one cl]
  · exact .inl h
  · exact .inr fun a cl e => h ⟨a, cl, e⟩
set_option maxRecDepth 1000000 in
theorem sq_round {w wr : World} {s : ByteArray} {top must : Bool} {i c : Nat} {K : Act → World → Prop} {a : Act} (hs : s.size ≤ 4194304) (ih : SIh s c) (hf : SFr s top a) (hrel : SRel w s top must i wr c a)
    (hK : ∀ a' w' c', c < c' → SFr s top a' → SRel w s top must i w' c' a' → K a' w') : sqBody.wp Tryf.prog (Exit.then K (SQ w s top must i)) a wr := by
  obtain ⟨acc, ao, cap, hd, tlq, e1, e12, e13, e14, hkr, hb, hcont, hle, hcb⟩ := hrel
  obtain ⟨f, hfr⟩ := sframe_lit a.tmps hf.sz hf.s0 e1 hf.s2 hf.s11 e12 e13 e14
  have ha : a = { tmps := a.tmps, defers := [] } := by cases a; simp only [Act.mk.injEq, true_and]; exact hf.df
  rw [ha, hfr]
  clear ha hfr hf e1 e12 e13 e14
  by_cases hlt : c < s.size
  · rw [Nat.min_eq_left (by omega)]
    have hz := bz_chr s c hlt
    by_cases h41 : s[c].toNat = 41
    · cases top with
      | true => exact sq_closeTop hs ih hkr hb hcont hle hlt hK h41 rfl f
      | false => exact sq_close hs ih hkr hb hcont hle hlt hK h41 rfl f
    by_cases h40 : s[c].toNat = 40
    · by_cases hn : c + 1 < s.size
      · by_cases hx : (s[c + 1]'hn).toNat = 41
        · exact sq_posc hs ih hkr hb hcont hle hlt hK h40 hn hx f
        · exact sq_capA hs ih hkr hb hcont hle hlt hK h40 (by rw [bz_chr s (c + 1) hn]; omega) hn f
      · exact sq_capB hs ih hkr hb hcont hle hlt hK h40 (by unfold chr; rw [if_neg (by rw [bz_length]; exact hn)]; decide) hn f
    by_cases h37 : s[c].toNat = 37
    · have h37' : chr (bz s) c = 37 := by rw [hz]; omega
      by_cases hn : c + 1 < s.size
      · have hz1 := bz_chr s (c + 1) hn
        by_cases h48 : (s[c + 1]'hn).toNat = 48
        · exact sq_idx hs ih hkr hb hcont hle hlt hK h37 hn h48 f
        by_cases hd : 49 ≤ (s[c + 1]'hn).toNat ∧ (s[c + 1]'hn).toNat ≤ 57
        · exact sq_num hs ih hkr hb hcont hle hlt hK h37 hn hd.1 hd.2 f
        by_cases h98 : (s[c + 1]'hn).toNat = 98
        · by_cases h2 : c + 2 < s.size
          · by_cases h3 : c + 3 < s.size
            · exact sq_bracea hs ih hkr hb hcont hle hlt hK h37 hn h98 h3 f
            · exact sq_braceb hs ih hkr hb hcont hle hlt hK h37 hn h98 h2 h3 f
          · exact sq_bracec hs ih hkr hb hcont hle hlt hK h37 hn h98 h2 f
        obtain ⟨q1, q2⟩ := clsEnd_esc (top := top) (tlq := tlq) (acc := acc) h37' hlt (by rw [hz1]; omega) (by rw [hz1]; omega)
        exact sq_classB hs ih hkr hb hcont hle hlt hK h37 hn (by omega) h98 q1 q2 f
      · have hz1 : chr (bz s) (c + 1) = -1 := by unfold chr; rw [if_neg (by rw [bz_length]; exact hn)]
        obtain ⟨q1, q2⟩ := clsEnd_esc (top := top) (tlq := tlq) (acc := acc) h37' hlt (by rw [hz1]; omega) (by rw [hz1]; omega)
        exact sq_classA hs ih hkr hb hcont hle hlt hK (fun k hk => by rw [h37]; intro e; subst e; simp at hk) (fun _ => hn) q1 q2 f
    by_cases h42 : s[c].toNat = 42
    · rcases last_one acc with ⟨a, cl, hacc⟩ | hno
      · exact sq_quant42 hs ih hkr hb hcont hle hlt hK h42 hacc f
      · exact sq_quantLit42 hs ih hkr hb hcont hle hlt hK h42 hno f
    by_cases h43 : s[c].toNat = 43
    · rcases last_one acc with ⟨a, cl, hacc⟩ | hno
      · exact sq_quant43 hs ih hkr hb hcont hle hlt hK h43 hacc f
      · exact sq_quantLit43 hs ih hkr hb hcont hle hlt hK h43 hno f
    by_cases h45 : s[c].toNat = 45
    · rcases last_one acc with ⟨a, cl, hacc⟩ | hno
      · exact sq_quant45 hs ih hkr hb hcont hle hlt hK h45 hacc f
      · exact sq_quantLit45 hs ih hkr hb hcont hle hlt hK h45 hno f
    by_cases h63 : s[c].toNat = 63
    · rcases last_one acc with ⟨a, cl, hacc⟩ | hno
      · exact sq_quant63 hs ih hkr hb hcont hle hlt hK h63 hacc f
      · exact sq_quantLit63 hs ih hkr hb hcont hle hlt hK h63 hno f
    by_cases h36 : s[c].toNat = 36
    · cases top with
      | true =>
        by_cases hl : c + 1 = s.size
        · exact sq_tail hs ih hkr hb hcont hle hlt hK h36 rfl hl f
        · exact sq_dollarB hs ih hkr hb hcont hle hlt hK h36 rfl hl f
      | false => exact sq_dollarA hs ih hkr hb hcont hle hlt hK h36 rfl f
    have hne : ∀ k, k ∈ [41, 40, 42, 43, 45, 63, 36] → s[c].toNat ≠ k := fun k hk => by
      simp only [List.mem_cons, List.not_mem_nil, or_false] at hk
      rcases hk with rfl | rfl | rfl | rfl | rfl | rfl | rfl <;> assumption
    exact sq_classA hs ih hkr hb hcont hle hlt hK hne (fun h => absurd h h37) rfl (clsEnd_not hlt hne h37) f
  · rw [Nat.min_eq_right (by omega)]
    exact sq_end hs hkr hb hcont hle (by omega) hcb f
theorem sq_loop {w wr : World} {s : ByteArray} {top must : Bool} {i c : Nat} {a : Act} (hs : s.size ≤ 4194304) (ih : SIh s c) (hf : SFr s top a) (hrel : SRel w s top must i wr c a) :
    (Code.loop sqBody).wp Tryf.prog (SQ w s top must i) a wr := by
  refine wp_loop_ghost (fun n a' w' => ∃ c', n = s.size + 1 - c' ∧ c ≤ c' ∧ SFr s top a' ∧ SRel w s top must i w' c' a') (s.size + 1 - c) ⟨c, rfl, Nat.le_refl _, hf, hrel⟩ ?_
  rintro n a' w' ⟨c', rfl, hcc, hf', hrel'⟩
  refine sq_round hs (fun w c2 h1 h2 => ih w c2 (by omega) h2) hf' hrel' ?_
  intro a2 w2 c2 hlt hf2 hrel2
  have : c2 ≤ s.size + 1 := by obtain ⟨_, _, _, _, _, _, _, _, _, _, _, _, _, h⟩ := hrel2; exact h
  exact ⟨_, by omega, c2, rfl, by omega, hf2, hrel2⟩
end Go.Proofs.YtejankffdmahnaaFmt
