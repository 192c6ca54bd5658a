/-
  The first loop of the law on well-formed programs, its rounds joined. Conditions as each statement says.
-/
import Derived.Test.YtejankffdmahnaaFmtLawD
import Derived.BigQuiet
import Derived.BigGuardPart
namespace Go.Proofs.YtejankffdmahnaaFmt
open Go.RowKit
set_option linter.unusedVariables false
set_option linter.unusedSimpArgs false


set_option maxRecDepth 1000000 in
set_option maxHeartbeats 4000000 in
theorem lr_chr {w4 wr : World} {s : ByteArray} {J : List Ins} {ig icap B M g1 g2 g3 k : Nat} {K : Act → World → Prop} (hE : LEnv w4 J B ig M g1 g2 g3) (hR : LRows w4 wr J B M g1 g2 g3 k)
    (hK : ∀ a' w', LFr s J ig icap M g1 g2 g3 a' → LRel w4 J B M g1 g2 g3 w' (k + 1) a' → K a' w')
    {c : Cl} (hi : J[k]? = some (.chr c)) (f : Nat → Value) :
    lawBody.wp Tryf.prog (Exit.then K (LQ w4 s J B ig icap M g1 g2 g3)) { tmps := #[.string s, f 1, f 2, f 3, f 4, f 5, f 6, f 7, .slice (some ⟨ig, 0, none⟩) J.length icap, .int .i64 (J.length : Int), f 10, f 11, f 12, f 13, f 14, f 15, f 16, f 17, f 18, .slice (some ⟨g1, 0, none⟩) M M, .slice (some ⟨g2, 0, none⟩) M M, .slice (some ⟨g3, 0, none⟩) M M, .int .i64 (topF J k : Int), .int .i64 (k : Int), f 24, f 25, f 26, f 27, f 28, f 29, f 30, f 31, f 32, f 33, f 34, f 35, f 36, f 37, f 38, f 39, f 40, f 41, f 42, f 43, f 44, f 45, f 46, f 47, f 48, f 49, f 50, f 51, f 52, f 53, f 54, f 55, f 56, f 57, f 58, f 59, f 60, f 61, f 62, f 63, f 64, f 65, f 66, f 67, f 68, f 69, f 70, f 71, f 72, f 73, f 74, f 75, f 76, f 77, f 78, f 79, f 80, f 81, f 82, f 83, f 84, f 85, f 86, f 87, f 88, f 89, f 90, f 91, f 92, f 93, f 94, f 95, f 96, f 97, f 98, f 99, f 100, f 101, f 102, f 103, f 104, f 105, f 106, f 107, f 108, f 109, f 110, f 111, f 112, f 113, f 114, f 115, f 116, f 117, f 118, f 119, f 120, f 121, f 122, f 123, f 124, f 125, f 126, f 127, f 128, f 129, f 130, f 131, f 132, f 133, f 134, f 135, f 136, f 137, f 138, f 139, f 140, f 141, f 142, f 143, f 144, f 145, f 146, f 147, f 148, f 149, f 150, f 151, f 152, f 153, f 154, f 155, f 156, f 157, f 158, f 159, f 160, f 161, f 162, f 163, f 164, f 165, f 166, f 167, f 168, f 169, f 170, f 171, f 172, f 173, f 174, f 175, f 176, f 177, f 178, f 179, f 180, f 181, f 182, f 183, f 184, f 185, f 186, f 187, f 188, f 189, f 190, f 191, f 192, f 193, f 194, f 195, f 196, f 197, f 198, f 199, f 200, f 201, f 202, f 203, f 204, f 205, f 206, f 207, f 208, f 209, f 210, f 211, f 212, f 213, f 214, f 215, f 216, f 217, f 218, f 219, f 220, f 221, f 222, f 223, f 224, f 225, f 226, f 227, f 228, f 229, f 230, f 231, f 232, f 233, f 234, f 235, f 236, f 237, f 238, f 239, f 240, f 241, f 242, f 243, f 244, f 245, f 246], defers := [] } wr := by
  obtain ⟨v, hv, c0, c1, c2, c3⟩ := hE.prog k _ hi
  have hkl : k < J.length := (List.getElem?_eq_some_iff.1 hi).1
  have hL := hE.small
  have hM1 : M ≤ 2 * J.length + 4 := Nat.le_of_eq hE.two
  have hM2 : 2 * J.length + 4 ≤ M := Nat.le_of_eq hE.two.symm
  have hbc : ∀ (j : Nat) (u : Value), w4.cell? ⟨ig, j, none⟩ = some u → wr.cell? ⟨ig, j, none⟩ = some u := fun j u h => (hR.below0.cell hE.igB).trans h
  have c0 := hbc _ _ c0
  have c1 := hbc _ _ c1
  have c2 := hbc _ _ c2
  have c3 := hbc _ _ c3
  clear hbc
  have hki : (k : Int) < (J.length : Int) := by omega
  have HE := Lib.hid hE
  have HR := Lib.hid hR
  have HK := Lib.hid hK
  have HI := Lib.hid hi
  clear hE hR hK hi
  simp only [insF] at c0 c2 c3
  rcases hv with rfl | ⟨_, T, p, rfl⟩
  all_goals
    conv => arg 2; whnf
    go_wp2_with fail
    refine (fields_any _ _ _ _ _).mono ?_
    rintro e w5 ⟨rfl, hb5⟩
    have HR5 := Lib.hid (HR.out.below hb5 HE.out.Bs)
    clear hb5 c0 c1 c2 c3
    go_wp2_with fail
    exact HK.out _ _ ⟨rfl, rfl, rfl, rfl, rfl, rfl, rfl, rfl⟩ ⟨int_is' (by rw [top_next HI.out]; rfl), int_is' (by omega), HR5.out.plain HI.out (by intro x; rfl) (by intro x; rfl)⟩
set_option maxRecDepth 1000000 in
set_option maxHeartbeats 4000000 in
theorem lr_mat {w4 wr : World} {s : ByteArray} {J : List Ins} {ig icap B M g1 g2 g3 k : Nat} {K : Act → World → Prop} (hE : LEnv w4 J B ig M g1 g2 g3) (hR : LRows w4 wr J B M g1 g2 g3 k)
    (hK : ∀ a' w', LFr s J ig icap M g1 g2 g3 a' → LRel w4 J B M g1 g2 g3 w' (k + 1) a' → K a' w')
    (hi : J[k]? = some (.mat)) (f : Nat → Value) :
    lawBody.wp Tryf.prog (Exit.then K (LQ w4 s J B ig icap M g1 g2 g3)) { tmps := #[.string s, f 1, f 2, f 3, f 4, f 5, f 6, f 7, .slice (some ⟨ig, 0, none⟩) J.length icap, .int .i64 (J.length : Int), f 10, f 11, f 12, f 13, f 14, f 15, f 16, f 17, f 18, .slice (some ⟨g1, 0, none⟩) M M, .slice (some ⟨g2, 0, none⟩) M M, .slice (some ⟨g3, 0, none⟩) M M, .int .i64 (topF J k : Int), .int .i64 (k : Int), f 24, f 25, f 26, f 27, f 28, f 29, f 30, f 31, f 32, f 33, f 34, f 35, f 36, f 37, f 38, f 39, f 40, f 41, f 42, f 43, f 44, f 45, f 46, f 47, f 48, f 49, f 50, f 51, f 52, f 53, f 54, f 55, f 56, f 57, f 58, f 59, f 60, f 61, f 62, f 63, f 64, f 65, f 66, f 67, f 68, f 69, f 70, f 71, f 72, f 73, f 74, f 75, f 76, f 77, f 78, f 79, f 80, f 81, f 82, f 83, f 84, f 85, f 86, f 87, f 88, f 89, f 90, f 91, f 92, f 93, f 94, f 95, f 96, f 97, f 98, f 99, f 100, f 101, f 102, f 103, f 104, f 105, f 106, f 107, f 108, f 109, f 110, f 111, f 112, f 113, f 114, f 115, f 116, f 117, f 118, f 119, f 120, f 121, f 122, f 123, f 124, f 125, f 126, f 127, f 128, f 129, f 130, f 131, f 132, f 133, f 134, f 135, f 136, f 137, f 138, f 139, f 140, f 141, f 142, f 143, f 144, f 145, f 146, f 147, f 148, f 149, f 150, f 151, f 152, f 153, f 154, f 155, f 156, f 157, f 158, f 159, f 160, f 161, f 162, f 163, f 164, f 165, f 166, f 167, f 168, f 169, f 170, f 171, f 172, f 173, f 174, f 175, f 176, f 177, f 178, f 179, f 180, f 181, f 182, f 183, f 184, f 185, f 186, f 187, f 188, f 189, f 190, f 191, f 192, f 193, f 194, f 195, f 196, f 197, f 198, f 199, f 200, f 201, f 202, f 203, f 204, f 205, f 206, f 207, f 208, f 209, f 210, f 211, f 212, f 213, f 214, f 215, f 216, f 217, f 218, f 219, f 220, f 221, f 222, f 223, f 224, f 225, f 226, f 227, f 228, f 229, f 230, f 231, f 232, f 233, f 234, f 235, f 236, f 237, f 238, f 239, f 240, f 241, f 242, f 243, f 244, f 245, f 246], defers := [] } wr := by
  obtain ⟨v, hv, c0, c1, c2, c3⟩ := hE.prog k _ hi
  have hkl : k < J.length := (List.getElem?_eq_some_iff.1 hi).1
  have hL := hE.small
  have hM1 : M ≤ 2 * J.length + 4 := Nat.le_of_eq hE.two
  have hM2 : 2 * J.length + 4 ≤ M := Nat.le_of_eq hE.two.symm
  have hbc : ∀ (j : Nat) (u : Value), w4.cell? ⟨ig, j, none⟩ = some u → wr.cell? ⟨ig, j, none⟩ = some u := fun j u h => (hR.below0.cell hE.igB).trans h
  have c0 := hbc _ _ c0
  have c1 := hbc _ _ c1
  have c2 := hbc _ _ c2
  have c3 := hbc _ _ c3
  clear hbc
  have hki : (k : Int) < (J.length : Int) := by omega
  have HE := Lib.hid hE
  have HR := Lib.hid hR
  have HK := Lib.hid hK
  have HI := Lib.hid hi
  clear hE hR hK hi
  simp only [insF] at c0 c2 c3
  obtain rfl : v = .nilIface := by
    rcases hv with h | ⟨⟨c, hc⟩, _⟩
    · exact h
    · cases hc
  conv => arg 2; whnf
  go_wp2_with fail
  refine (fields_any _ _ _ _ _).mono ?_
  rintro e w5 ⟨rfl, hb5⟩
  have HR5 := Lib.hid (HR.out.below hb5 HE.out.Bs)
  clear hb5 c0 c1 c2 c3
  go_wp2_with fail
  exact HK.out _ _ ⟨rfl, rfl, rfl, rfl, rfl, rfl, rfl, rfl⟩ ⟨int_is' (by rw [top_next HI.out]; rfl), int_is' (by omega), HR5.out.plain HI.out (by intro x; rfl) (by intro x; rfl)⟩
set_option maxRecDepth 1000000 in
set_option maxHeartbeats 4000000 in
theorem lr_tmat {w4 wr : World} {s : ByteArray} {J : List Ins} {ig icap B M g1 g2 g3 k : Nat} {K : Act → World → Prop} (hE : LEnv w4 J B ig M g1 g2 g3) (hR : LRows w4 wr J B M g1 g2 g3 k)
    (hK : ∀ a' w', LFr s J ig icap M g1 g2 g3 a' → LRel w4 J B M g1 g2 g3 w' (k + 1) a' → K a' w')
    (hi : J[k]? = some (.tmat)) (f : Nat → Value) :
    lawBody.wp Tryf.prog (Exit.then K (LQ w4 s J B ig icap M g1 g2 g3)) { tmps := #[.string s, f 1, f 2, f 3, f 4, f 5, f 6, f 7, .slice (some ⟨ig, 0, none⟩) J.length icap, .int .i64 (J.length : Int), f 10, f 11, f 12, f 13, f 14, f 15, f 16, f 17, f 18, .slice (some ⟨g1, 0, none⟩) M M, .slice (some ⟨g2, 0, none⟩) M M, .slice (some ⟨g3, 0, none⟩) M M, .int .i64 (topF J k : Int), .int .i64 (k : Int), f 24, f 25, f 26, f 27, f 28, f 29, f 30, f 31, f 32, f 33, f 34, f 35, f 36, f 37, f 38, f 39, f 40, f 41, f 42, f 43, f 44, f 45, f 46, f 47, f 48, f 49, f 50, f 51, f 52, f 53, f 54, f 55, f 56, f 57, f 58, f 59, f 60, f 61, f 62, f 63, f 64, f 65, f 66, f 67, f 68, f 69, f 70, f 71, f 72, f 73, f 74, f 75, f 76, f 77, f 78, f 79, f 80, f 81, f 82, f 83, f 84, f 85, f 86, f 87, f 88, f 89, f 90, f 91, f 92, f 93, f 94, f 95, f 96, f 97, f 98, f 99, f 100, f 101, f 102, f 103, f 104, f 105, f 106, f 107, f 108, f 109, f 110, f 111, f 112, f 113, f 114, f 115, f 116, f 117, f 118, f 119, f 120, f 121, f 122, f 123, f 124, f 125, f 126, f 127, f 128, f 129, f 130, f 131, f 132, f 133, f 134, f 135, f 136, f 137, f 138, f 139, f 140, f 141, f 142, f 143, f 144, f 145, f 146, f 147, f 148, f 149, f 150, f 151, f 152, f 153, f 154, f 155, f 156, f 157, f 158, f 159, f 160, f 161, f 162, f 163, f 164, f 165, f 166, f 167, f 168, f 169, f 170, f 171, f 172, f 173, f 174, f 175, f 176, f 177, f 178, f 179, f 180, f 181, f 182, f 183, f 184, f 185, f 186, f 187, f 188, f 189, f 190, f 191, f 192, f 193, f 194, f 195, f 196, f 197, f 198, f 199, f 200, f 201, f 202, f 203, f 204, f 205, f 206, f 207, f 208, f 209, f 210, f 211, f 212, f 213, f 214, f 215, f 216, f 217, f 218, f 219, f 220, f 221, f 222, f 223, f 224, f 225, f 226, f 227, f 228, f 229, f 230, f 231, f 232, f 233, f 234, f 235, f 236, f 237, f 238, f 239, f 240, f 241, f 242, f 243, f 244, f 245, f 246], defers := [] } wr := by
  obtain ⟨v, hv, c0, c1, c2, c3⟩ := hE.prog k _ hi
  have hkl : k < J.length := (List.getElem?_eq_some_iff.1 hi).1
  have hL := hE.small
  have hM1 : M ≤ 2 * J.length + 4 := Nat.le_of_eq hE.two
  have hM2 : 2 * J.length + 4 ≤ M := Nat.le_of_eq hE.two.symm
  have hbc : ∀ (j : Nat) (u : Value), w4.cell? ⟨ig, j, none⟩ = some u → wr.cell? ⟨ig, j, none⟩ = some u := fun j u h => (hR.below0.cell hE.igB).trans h
  have c0 := hbc _ _ c0
  have c1 := hbc _ _ c1
  have c2 := hbc _ _ c2
  have c3 := hbc _ _ c3
  clear hbc
  have hki : (k : Int) < (J.length : Int) := by omega
  have HE := Lib.hid hE
  have HR := Lib.hid hR
  have HK := Lib.hid hK
  have HI := Lib.hid hi
  clear hE hR hK hi
  simp only [insF] at c0 c2 c3
  obtain rfl : v = .nilIface := by
    rcases hv with h | ⟨⟨c, hc⟩, _⟩
    · exact h
    · cases hc
  conv => arg 2; whnf
  go_wp2_with fail
  refine (fields_any _ _ _ _ _).mono ?_
  rintro e w5 ⟨rfl, hb5⟩
  have HR5 := Lib.hid (HR.out.below hb5 HE.out.Bs)
  clear hb5 c0 c1 c2 c3
  go_wp2_with fail
  exact HK.out _ _ ⟨rfl, rfl, rfl, rfl, rfl, rfl, rfl, rfl⟩ ⟨int_is' (by rw [top_next HI.out]; rfl), int_is' (by omega), HR5.out.plain HI.out (by intro x; rfl) (by intro x; rfl)⟩
set_option maxRecDepth 1000000 in
set_option maxHeartbeats 4000000 in
theorem lr_brace {w4 wr : World} {s : ByteArray} {J : List Ins} {ig icap B M g1 g2 g3 k : Nat} {K : Act → World → Prop} (hE : LEnv w4 J B ig M g1 g2 g3) (hR : LRows w4 wr J B M g1 g2 g3 k)
    (hK : ∀ a' w', LFr s J ig icap M g1 g2 g3 a' → LRel w4 J B M g1 g2 g3 w' (k + 1) a' → K a' w')
    {x y : Int} (hi : J[k]? = some (.brace x y)) (f : Nat → Value) :
    lawBody.wp Tryf.prog (Exit.then K (LQ w4 s J B ig icap M g1 g2 g3)) { tmps := #[.string s, f 1, f 2, f 3, f 4, f 5, f 6, f 7, .slice (some ⟨ig, 0, none⟩) J.length icap, .int .i64 (J.length : Int), f 10, f 11, f 12, f 13, f 14, f 15, f 16, f 17, f 18, .slice (some ⟨g1, 0, none⟩) M M, .slice (some ⟨g2, 0, none⟩) M M, .slice (some ⟨g3, 0, none⟩) M M, .int .i64 (topF J k : Int), .int .i64 (k : Int), f 24, f 25, f 26, f 27, f 28, f 29, f 30, f 31, f 32, f 33, f 34, f 35, f 36, f 37, f 38, f 39, f 40, f 41, f 42, f 43, f 44, f 45, f 46, f 47, f 48, f 49, f 50, f 51, f 52, f 53, f 54, f 55, f 56, f 57, f 58, f 59, f 60, f 61, f 62, f 63, f 64, f 65, f 66, f 67, f 68, f 69, f 70, f 71, f 72, f 73, f 74, f 75, f 76, f 77, f 78, f 79, f 80, f 81, f 82, f 83, f 84, f 85, f 86, f 87, f 88, f 89, f 90, f 91, f 92, f 93, f 94, f 95, f 96, f 97, f 98, f 99, f 100, f 101, f 102, f 103, f 104, f 105, f 106, f 107, f 108, f 109, f 110, f 111, f 112, f 113, f 114, f 115, f 116, f 117, f 118, f 119, f 120, f 121, f 122, f 123, f 124, f 125, f 126, f 127, f 128, f 129, f 130, f 131, f 132, f 133, f 134, f 135, f 136, f 137, f 138, f 139, f 140, f 141, f 142, f 143, f 144, f 145, f 146, f 147, f 148, f 149, f 150, f 151, f 152, f 153, f 154, f 155, f 156, f 157, f 158, f 159, f 160, f 161, f 162, f 163, f 164, f 165, f 166, f 167, f 168, f 169, f 170, f 171, f 172, f 173, f 174, f 175, f 176, f 177, f 178, f 179, f 180, f 181, f 182, f 183, f 184, f 185, f 186, f 187, f 188, f 189, f 190, f 191, f 192, f 193, f 194, f 195, f 196, f 197, f 198, f 199, f 200, f 201, f 202, f 203, f 204, f 205, f 206, f 207, f 208, f 209, f 210, f 211, f 212, f 213, f 214, f 215, f 216, f 217, f 218, f 219, f 220, f 221, f 222, f 223, f 224, f 225, f 226, f 227, f 228, f 229, f 230, f 231, f 232, f 233, f 234, f 235, f 236, f 237, f 238, f 239, f 240, f 241, f 242, f 243, f 244, f 245, f 246], defers := [] } wr := by
  obtain ⟨v, hv, c0, c1, c2, c3⟩ := hE.prog k _ hi
  have hkl : k < J.length := (List.getElem?_eq_some_iff.1 hi).1
  have hL := hE.small
  have hM1 : M ≤ 2 * J.length + 4 := Nat.le_of_eq hE.two
  have hM2 : 2 * J.length + 4 ≤ M := Nat.le_of_eq hE.two.symm
  have hbc : ∀ (j : Nat) (u : Value), w4.cell? ⟨ig, j, none⟩ = some u → wr.cell? ⟨ig, j, none⟩ = some u := fun j u h => (hR.below0.cell hE.igB).trans h
  have c0 := hbc _ _ c0
  have c1 := hbc _ _ c1
  have c2 := hbc _ _ c2
  have c3 := hbc _ _ c3
  clear hbc
  have hki : (k : Int) < (J.length : Int) := by omega
  have HE := Lib.hid hE
  have HR := Lib.hid hR
  have HK := Lib.hid hK
  have HI := Lib.hid hi
  clear hE hR hK hi
  simp only [insF] at c0 c2 c3
  obtain rfl : v = .nilIface := by
    rcases hv with h | ⟨⟨c, hc⟩, _⟩
    · exact h
    · cases hc
  conv => arg 2; whnf
  go_wp2_with fail
  refine (fields_any _ _ _ _ _).mono ?_
  rintro e w5 ⟨rfl, hb5⟩
  have HR5 := Lib.hid (HR.out.below hb5 HE.out.Bs)
  clear hb5 c0 c1 c2 c3
  go_wp2_with fail
  exact HK.out _ _ ⟨rfl, rfl, rfl, rfl, rfl, rfl, rfl, rfl⟩ ⟨int_is' (by rw [top_next HI.out]; rfl), int_is' (by omega), HR5.out.plain HI.out (by intro x; rfl) (by intro x; rfl)⟩
set_option maxRecDepth 1000000 in
set_option maxHeartbeats 4000000 in
theorem lr_num {w4 wr : World} {s : ByteArray} {J : List Ins} {ig icap B M g1 g2 g3 k : Nat} {K : Act → World → Prop} (hE : LEnv w4 J B ig M g1 g2 g3) (hR : LRows w4 wr J B M g1 g2 g3 k)
    (hK : ∀ a' w', LFr s J ig icap M g1 g2 g3 a' → LRel w4 J B M g1 g2 g3 w' (k + 1) a' → K a' w')
    {x : Int} (hi : J[k]? = some (.num x)) (f : Nat → Value) :
    lawBody.wp Tryf.prog (Exit.then K (LQ w4 s J B ig icap M g1 g2 g3)) { tmps := #[.string s, f 1, f 2, f 3, f 4, f 5, f 6, f 7, .slice (some ⟨ig, 0, none⟩) J.length icap, .int .i64 (J.length : Int), f 10, f 11, f 12, f 13, f 14, f 15, f 16, f 17, f 18, .slice (some ⟨g1, 0, none⟩) M M, .slice (some ⟨g2, 0, none⟩) M M, .slice (some ⟨g3, 0, none⟩) M M, .int .i64 (topF J k : Int), .int .i64 (k : Int), f 24, f 25, f 26, f 27, f 28, f 29, f 30, f 31, f 32, f 33, f 34, f 35, f 36, f 37, f 38, f 39, f 40, f 41, f 42, f 43, f 44, f 45, f 46, f 47, f 48, f 49, f 50, f 51, f 52, f 53, f 54, f 55, f 56, f 57, f 58, f 59, f 60, f 61, f 62, f 63, f 64, f 65, f 66, f 67, f 68, f 69, f 70, f 71, f 72, f 73, f 74, f 75, f 76, f 77, f 78, f 79, f 80, f 81, f 82, f 83, f 84, f 85, f 86, f 87, f 88, f 89, f 90, f 91, f 92, f 93, f 94, f 95, f 96, f 97, f 98, f 99, f 100, f 101, f 102, f 103, f 104, f 105, f 106, f 107, f 108, f 109, f 110, f 111, f 112, f 113, f 114, f 115, f 116, f 117, f 118, f 119, f 120, f 121, f 122, f 123, f 124, f 125, f 126, f 127, f 128, f 129, f 130, f 131, f 132, f 133, f 134, f 135, f 136, f 137, f 138, f 139, f 140, f 141, f 142, f 143, f 144, f 145, f 146, f 147, f 148, f 149, f 150, f 151, f 152, f 153, f 154, f 155, f 156, f 157, f 158, f 159, f 160, f 161, f 162, f 163, f 164, f 165, f 166, f 167, f 168, f 169, f 170, f 171, f 172, f 173, f 174, f 175, f 176, f 177, f 178, f 179, f 180, f 181, f 182, f 183, f 184, f 185, f 186, f 187, f 188, f 189, f 190, f 191, f 192, f 193, f 194, f 195, f 196, f 197, f 198, f 199, f 200, f 201, f 202, f 203, f 204, f 205, f 206, f 207, f 208, f 209, f 210, f 211, f 212, f 213, f 214, f 215, f 216, f 217, f 218, f 219, f 220, f 221, f 222, f 223, f 224, f 225, f 226, f 227, f 228, f 229, f 230, f 231, f 232, f 233, f 234, f 235, f 236, f 237, f 238, f 239, f 240, f 241, f 242, f 243, f 244, f 245, f 246], defers := [] } wr := by
  obtain ⟨v, hv, c0, c1, c2, c3⟩ := hE.prog k _ hi
  have hkl : k < J.length := (List.getElem?_eq_some_iff.1 hi).1
  have hL := hE.small
  have hM1 : M ≤ 2 * J.length + 4 := Nat.le_of_eq hE.two
  have hM2 : 2 * J.length + 4 ≤ M := Nat.le_of_eq hE.two.symm
  have hbc : ∀ (j : Nat) (u : Value), w4.cell? ⟨ig, j, none⟩ = some u → wr.cell? ⟨ig, j, none⟩ = some u := fun j u h => (hR.below0.cell hE.igB).trans h
  have c0 := hbc _ _ c0
  have c1 := hbc _ _ c1
  have c2 := hbc _ _ c2
  have c3 := hbc _ _ c3
  clear hbc
  have hki : (k : Int) < (J.length : Int) := by omega
  have HE := Lib.hid hE
  have HR := Lib.hid hR
  have HK := Lib.hid hK
  have HI := Lib.hid hi
  clear hE hR hK hi
  simp only [insF] at c0 c2 c3
  obtain rfl : v = .nilIface := by
    rcases hv with h | ⟨⟨c, hc⟩, _⟩
    · exact h
    · cases hc
  conv => arg 2; whnf
  go_wp2_with fail
  refine (fields_any _ _ _ _ _).mono ?_
  rintro e w5 ⟨rfl, hb5⟩
  have HR5 := Lib.hid (HR.out.below hb5 HE.out.Bs)
  clear hb5 c0 c1 c2 c3
  go_wp2_with fail
  exact HK.out _ _ ⟨rfl, rfl, rfl, rfl, rfl, rfl, rfl, rfl⟩ ⟨int_is' (by rw [top_next HI.out]; rfl), int_is' (by omega), HR5.out.plain HI.out (by intro x; rfl) (by intro x; rfl)⟩
set_option maxRecDepth 1000000 in
set_option maxHeartbeats 4000000 in
theorem lr_jmp {w4 wr : World} {s : ByteArray} {J : List Ins} {ig icap B M g1 g2 g3 k : Nat} {K : Act → World → Prop} (hE : LEnv w4 J B ig M g1 g2 g3) (hR : LRows w4 wr J B M g1 g2 g3 k)
    (hK : ∀ a' w', LFr s J ig icap M g1 g2 g3 a' → LRel w4 J B M g1 g2 g3 w' (k + 1) a' → K a' w')
    {a : Nat} (hi : J[k]? = some (.jmp a)) (ha : a < J.length) (f : Nat → Value) :
    lawBody.wp Tryf.prog (Exit.then K (LQ w4 s J B ig icap M g1 g2 g3)) { tmps := #[.string s, f 1, f 2, f 3, f 4, f 5, f 6, f 7, .slice (some ⟨ig, 0, none⟩) J.length icap, .int .i64 (J.length : Int), f 10, f 11, f 12, f 13, f 14, f 15, f 16, f 17, f 18, .slice (some ⟨g1, 0, none⟩) M M, .slice (some ⟨g2, 0, none⟩) M M, .slice (some ⟨g3, 0, none⟩) M M, .int .i64 (topF J k : Int), .int .i64 (k : Int), f 24, f 25, f 26, f 27, f 28, f 29, f 30, f 31, f 32, f 33, f 34, f 35, f 36, f 37, f 38, f 39, f 40, f 41, f 42, f 43, f 44, f 45, f 46, f 47, f 48, f 49, f 50, f 51, f 52, f 53, f 54, f 55, f 56, f 57, f 58, f 59, f 60, f 61, f 62, f 63, f 64, f 65, f 66, f 67, f 68, f 69, f 70, f 71, f 72, f 73, f 74, f 75, f 76, f 77, f 78, f 79, f 80, f 81, f 82, f 83, f 84, f 85, f 86, f 87, f 88, f 89, f 90, f 91, f 92, f 93, f 94, f 95, f 96, f 97, f 98, f 99, f 100, f 101, f 102, f 103, f 104, f 105, f 106, f 107, f 108, f 109, f 110, f 111, f 112, f 113, f 114, f 115, f 116, f 117, f 118, f 119, f 120, f 121, f 122, f 123, f 124, f 125, f 126, f 127, f 128, f 129, f 130, f 131, f 132, f 133, f 134, f 135, f 136, f 137, f 138, f 139, f 140, f 141, f 142, f 143, f 144, f 145, f 146, f 147, f 148, f 149, f 150, f 151, f 152, f 153, f 154, f 155, f 156, f 157, f 158, f 159, f 160, f 161, f 162, f 163, f 164, f 165, f 166, f 167, f 168, f 169, f 170, f 171, f 172, f 173, f 174, f 175, f 176, f 177, f 178, f 179, f 180, f 181, f 182, f 183, f 184, f 185, f 186, f 187, f 188, f 189, f 190, f 191, f 192, f 193, f 194, f 195, f 196, f 197, f 198, f 199, f 200, f 201, f 202, f 203, f 204, f 205, f 206, f 207, f 208, f 209, f 210, f 211, f 212, f 213, f 214, f 215, f 216, f 217, f 218, f 219, f 220, f 221, f 222, f 223, f 224, f 225, f 226, f 227, f 228, f 229, f 230, f 231, f 232, f 233, f 234, f 235, f 236, f 237, f 238, f 239, f 240, f 241, f 242, f 243, f 244, f 245, f 246], defers := [] } wr := by
  obtain ⟨v, hv, c0, c1, c2, c3⟩ := hE.prog k _ hi
  have hkl : k < J.length := (List.getElem?_eq_some_iff.1 hi).1
  have hL := hE.small
  have hM1 : M ≤ 2 * J.length + 4 := Nat.le_of_eq hE.two
  have hM2 : 2 * J.length + 4 ≤ M := Nat.le_of_eq hE.two.symm
  have hbc : ∀ (j : Nat) (u : Value), w4.cell? ⟨ig, j, none⟩ = some u → wr.cell? ⟨ig, j, none⟩ = some u := fun j u h => (hR.below0.cell hE.igB).trans h
  have c0 := hbc _ _ c0
  have c1 := hbc _ _ c1
  have c2 := hbc _ _ c2
  have c3 := hbc _ _ c3
  clear hbc
  have hki : (k : Int) < (J.length : Int) := by omega
  have HE := Lib.hid hE
  have HR := Lib.hid hR
  have HK := Lib.hid hK
  have HI := Lib.hid hi
  clear hE hR hK hi
  simp only [insF] at c0 c2 c3
  obtain rfl : v = .nilIface := by
    rcases hv with h | ⟨⟨c, hc⟩, _⟩
    · exact h
    · cases hc
  conv => arg 2; whnf
  have ta1 : decide ((a : Int) < 0) = false := decide_eq_false (by omega)
  have ta2 : decide ((J.length : Int) ≤ (a : Int)) = false := decide_eq_false (by omega)
  go_wp2_with fail
  refine (fields_any _ _ _ _ _).mono ?_
  rintro e w5 ⟨rfl, hb5⟩
  have HR5 := Lib.hid (HR.out.below hb5 HE.out.Bs)
  clear hb5 c0 c1 c2 c3
  go_wp2_with fail
  exact HK.out _ _ ⟨rfl, rfl, rfl, rfl, rfl, rfl, rfl, rfl⟩ ⟨int_is' (by rw [top_next HI.out]; rfl), int_is' (by omega), HR5.out.plain HI.out (by intro x; rfl) (by intro x; rfl)⟩
set_option maxRecDepth 1000000 in
set_option maxHeartbeats 4000000 in
theorem lr_split {w4 wr : World} {s : ByteArray} {J : List Ins} {ig icap B M g1 g2 g3 k : Nat} {K : Act → World → Prop} (hE : LEnv w4 J B ig M g1 g2 g3) (hR : LRows w4 wr J B M g1 g2 g3 k)
    (hK : ∀ a' w', LFr s J ig icap M g1 g2 g3 a' → LRel w4 J B M g1 g2 g3 w' (k + 1) a' → K a' w')
    {a b : Nat} (hi : J[k]? = some (.split a b)) (ha : a < J.length) (hb : b < J.length) (f : Nat → Value) :
    lawBody.wp Tryf.prog (Exit.then K (LQ w4 s J B ig icap M g1 g2 g3)) { tmps := #[.string s, f 1, f 2, f 3, f 4, f 5, f 6, f 7, .slice (some ⟨ig, 0, none⟩) J.length icap, .int .i64 (J.length : Int), f 10, f 11, f 12, f 13, f 14, f 15, f 16, f 17, f 18, .slice (some ⟨g1, 0, none⟩) M M, .slice (some ⟨g2, 0, none⟩) M M, .slice (some ⟨g3, 0, none⟩) M M, .int .i64 (topF J k : Int), .int .i64 (k : Int), f 24, f 25, f 26, f 27, f 28, f 29, f 30, f 31, f 32, f 33, f 34, f 35, f 36, f 37, f 38, f 39, f 40, f 41, f 42, f 43, f 44, f 45, f 46, f 47, f 48, f 49, f 50, f 51, f 52, f 53, f 54, f 55, f 56, f 57, f 58, f 59, f 60, f 61, f 62, f 63, f 64, f 65, f 66, f 67, f 68, f 69, f 70, f 71, f 72, f 73, f 74, f 75, f 76, f 77, f 78, f 79, f 80, f 81, f 82, f 83, f 84, f 85, f 86, f 87, f 88, f 89, f 90, f 91, f 92, f 93, f 94, f 95, f 96, f 97, f 98, f 99, f 100, f 101, f 102, f 103, f 104, f 105, f 106, f 107, f 108, f 109, f 110, f 111, f 112, f 113, f 114, f 115, f 116, f 117, f 118, f 119, f 120, f 121, f 122, f 123, f 124, f 125, f 126, f 127, f 128, f 129, f 130, f 131, f 132, f 133, f 134, f 135, f 136, f 137, f 138, f 139, f 140, f 141, f 142, f 143, f 144, f 145, f 146, f 147, f 148, f 149, f 150, f 151, f 152, f 153, f 154, f 155, f 156, f 157, f 158, f 159, f 160, f 161, f 162, f 163, f 164, f 165, f 166, f 167, f 168, f 169, f 170, f 171, f 172, f 173, f 174, f 175, f 176, f 177, f 178, f 179, f 180, f 181, f 182, f 183, f 184, f 185, f 186, f 187, f 188, f 189, f 190, f 191, f 192, f 193, f 194, f 195, f 196, f 197, f 198, f 199, f 200, f 201, f 202, f 203, f 204, f 205, f 206, f 207, f 208, f 209, f 210, f 211, f 212, f 213, f 214, f 215, f 216, f 217, f 218, f 219, f 220, f 221, f 222, f 223, f 224, f 225, f 226, f 227, f 228, f 229, f 230, f 231, f 232, f 233, f 234, f 235, f 236, f 237, f 238, f 239, f 240, f 241, f 242, f 243, f 244, f 245, f 246], defers := [] } wr := by
  obtain ⟨v, hv, c0, c1, c2, c3⟩ := hE.prog k _ hi
  have hkl : k < J.length := (List.getElem?_eq_some_iff.1 hi).1
  have hL := hE.small
  have hM1 : M ≤ 2 * J.length + 4 := Nat.le_of_eq hE.two
  have hM2 : 2 * J.length + 4 ≤ M := Nat.le_of_eq hE.two.symm
  have hbc : ∀ (j : Nat) (u : Value), w4.cell? ⟨ig, j, none⟩ = some u → wr.cell? ⟨ig, j, none⟩ = some u := fun j u h => (hR.below0.cell hE.igB).trans h
  have c0 := hbc _ _ c0
  have c1 := hbc _ _ c1
  have c2 := hbc _ _ c2
  have c3 := hbc _ _ c3
  clear hbc
  have hki : (k : Int) < (J.length : Int) := by omega
  have HE := Lib.hid hE
  have HR := Lib.hid hR
  have HK := Lib.hid hK
  have HI := Lib.hid hi
  clear hE hR hK hi
  simp only [insF] at c0 c2 c3
  obtain rfl : v = .nilIface := by
    rcases hv with h | ⟨⟨c, hc⟩, _⟩
    · exact h
    · cases hc
  conv => arg 2; whnf
  have ta1 : decide ((a : Int) < 0) = false := decide_eq_false (by omega)
  have ta2 : decide ((J.length : Int) ≤ (a : Int)) = false := decide_eq_false (by omega)
  have tb1 : decide ((b : Int) < 0) = false := decide_eq_false (by omega)
  have tb2 : decide ((J.length : Int) ≤ (b : Int)) = false := decide_eq_false (by omega)
  go_wp2_with fail
  refine (fields_any _ _ _ _ _).mono ?_
  rintro e w5 ⟨rfl, hb5⟩
  have HR5 := Lib.hid (HR.out.below hb5 HE.out.Bs)
  clear hb5 c0 c1 c2 c3
  go_wp2_with fail
  exact HK.out _ _ ⟨rfl, rfl, rfl, rfl, rfl, rfl, rfl, rfl⟩ ⟨int_is' (by rw [top_next HI.out]; rfl), int_is' (by omega), HR5.out.plain HI.out (by intro x; rfl) (by intro x; rfl)⟩
set_option maxRecDepth 1000000 in
set_option maxHeartbeats 4000000 in
theorem lr_saveLo {w4 wr : World} {s : ByteArray} {J : List Ins} {ig icap B M g1 g2 g3 k : Nat} {K : Act → World → Prop} (hE : LEnv w4 J B ig M g1 g2 g3) (hR : LRows w4 wr J B M g1 g2 g3 k)
    (hK : ∀ a' w', LFr s J ig icap M g1 g2 g3 a' → LRel w4 J B M g1 g2 g3 w' (k + 1) a' → K a' w')
    {n : Nat} (hi : J[k]? = some (.save n)) (hn : n < 2 * J.length + 2) (h2 : n < 2) (f : Nat → Value) :
    lawBody.wp Tryf.prog (Exit.then K (LQ w4 s J B ig icap M g1 g2 g3)) { tmps := #[.string s, f 1, f 2, f 3, f 4, f 5, f 6, f 7, .slice (some ⟨ig, 0, none⟩) J.length icap, .int .i64 (J.length : Int), f 10, f 11, f 12, f 13, f 14, f 15, f 16, f 17, f 18, .slice (some ⟨g1, 0, none⟩) M M, .slice (some ⟨g2, 0, none⟩) M M, .slice (some ⟨g3, 0, none⟩) M M, .int .i64 (topF J k : Int), .int .i64 (k : Int), f 24, f 25, f 26, f 27, f 28, f 29, f 30, f 31, f 32, f 33, f 34, f 35, f 36, f 37, f 38, f 39, f 40, f 41, f 42, f 43, f 44, f 45, f 46, f 47, f 48, f 49, f 50, f 51, f 52, f 53, f 54, f 55, f 56, f 57, f 58, f 59, f 60, f 61, f 62, f 63, f 64, f 65, f 66, f 67, f 68, f 69, f 70, f 71, f 72, f 73, f 74, f 75, f 76, f 77, f 78, f 79, f 80, f 81, f 82, f 83, f 84, f 85, f 86, f 87, f 88, f 89, f 90, f 91, f 92, f 93, f 94, f 95, f 96, f 97, f 98, f 99, f 100, f 101, f 102, f 103, f 104, f 105, f 106, f 107, f 108, f 109, f 110, f 111, f 112, f 113, f 114, f 115, f 116, f 117, f 118, f 119, f 120, f 121, f 122, f 123, f 124, f 125, f 126, f 127, f 128, f 129, f 130, f 131, f 132, f 133, f 134, f 135, f 136, f 137, f 138, f 139, f 140, f 141, f 142, f 143, f 144, f 145, f 146, f 147, f 148, f 149, f 150, f 151, f 152, f 153, f 154, f 155, f 156, f 157, f 158, f 159, f 160, f 161, f 162, f 163, f 164, f 165, f 166, f 167, f 168, f 169, f 170, f 171, f 172, f 173, f 174, f 175, f 176, f 177, f 178, f 179, f 180, f 181, f 182, f 183, f 184, f 185, f 186, f 187, f 188, f 189, f 190, f 191, f 192, f 193, f 194, f 195, f 196, f 197, f 198, f 199, f 200, f 201, f 202, f 203, f 204, f 205, f 206, f 207, f 208, f 209, f 210, f 211, f 212, f 213, f 214, f 215, f 216, f 217, f 218, f 219, f 220, f 221, f 222, f 223, f 224, f 225, f 226, f 227, f 228, f 229, f 230, f 231, f 232, f 233, f 234, f 235, f 236, f 237, f 238, f 239, f 240, f 241, f 242, f 243, f 244, f 245, f 246], defers := [] } wr := by
  obtain ⟨v, hv, c0, c1, c2, c3⟩ := hE.prog k _ hi
  have hkl : k < J.length := (List.getElem?_eq_some_iff.1 hi).1
  have hL := hE.small
  have hM1 : M ≤ 2 * J.length + 4 := Nat.le_of_eq hE.two
  have hM2 : 2 * J.length + 4 ≤ M := Nat.le_of_eq hE.two.symm
  have hbc : ∀ (j : Nat) (u : Value), w4.cell? ⟨ig, j, none⟩ = some u → wr.cell? ⟨ig, j, none⟩ = some u := fun j u h => (hR.below0.cell hE.igB).trans h
  have c0 := hbc _ _ c0
  have c1 := hbc _ _ c1
  have c2 := hbc _ _ c2
  have c3 := hbc _ _ c3
  clear hbc
  have hki : (k : Int) < (J.length : Int) := by omega
  have HE := Lib.hid hE
  have HR := Lib.hid hR
  have HK := Lib.hid hK
  have HI := Lib.hid hi
  clear hE hR hK hi
  simp only [insF] at c0 c2 c3
  obtain rfl : v = .nilIface := by
    rcases hv with h | ⟨⟨c, hc⟩, _⟩
    · exact h
    · cases hc
  conv => arg 2; whnf
  have tn1 : decide ((n : Int) < 0) = false := decide_eq_false (by omega)
  have tn2 : decide ((M : Int) ≤ (n : Int) + 1) = false := decide_eq_false (by omega)
  have hnM : (n : Int) < (M : Int) := by omega
  have hnM1 : (n : Int) + 1 < (M : Int) := by omega
  have tn3 : decide (2 ≤ (n : Int)) = false := decide_eq_false (by omega)
  go_wp2_with fail
  refine (fields_any _ _ _ _ _).mono ?_
  rintro e w5 ⟨rfl, hb5⟩
  have HR5 := Lib.hid (HR.out.below hb5 HE.out.Bs)
  clear hb5 c0 c1 c2 c3
  go_wp2_with fail
  exact HK.out _ _ ⟨rfl, rfl, rfl, rfl, rfl, rfl, rfl, rfl⟩ ⟨int_is' (by rw [top_next HI.out, topI, if_neg (by omega)]), int_is' (by omega), HR5.out.plain HI.out (by intro x; simp [Ins.touch]; omega) (by intro x; rfl)⟩


set_option maxRecDepth 1000000 in
set_option maxHeartbeats 4000000 in
theorem lr_saveUp {w4 wr : World} {s : ByteArray} {J : List Ins} {ig icap B M g1 g2 g3 k : Nat} {K : Act → World → Prop} (hE : LEnv w4 J B ig M g1 g2 g3) (hR : LRows w4 wr J B M g1 g2 g3 k)
    (hK : ∀ a' w', LFr s J ig icap M g1 g2 g3 a' → LRel w4 J B M g1 g2 g3 w' (k + 1) a' → K a' w')
    {n : Nat} (hi : J[k]? = some (.save n)) (hn : n < 2 * J.length + 2) (h2 : 2 ≤ n) (h4 : topF J k < n) (f : Nat → Value) :
    lawBody.wp Tryf.prog (Exit.then K (LQ w4 s J B ig icap M g1 g2 g3)) { tmps := #[.string s, f 1, f 2, f 3, f 4, f 5, f 6, f 7, .slice (some ⟨ig, 0, none⟩) J.length icap, .int .i64 (J.length : Int), f 10, f 11, f 12, f 13, f 14, f 15, f 16, f 17, f 18, .slice (some ⟨g1, 0, none⟩) M M, .slice (some ⟨g2, 0, none⟩) M M, .slice (some ⟨g3, 0, none⟩) M M, .int .i64 (topF J k : Int), .int .i64 (k : Int), f 24, f 25, f 26, f 27, f 28, f 29, f 30, f 31, f 32, f 33, f 34, f 35, f 36, f 37, f 38, f 39, f 40, f 41, f 42, f 43, f 44, f 45, f 46, f 47, f 48, f 49, f 50, f 51, f 52, f 53, f 54, f 55, f 56, f 57, f 58, f 59, f 60, f 61, f 62, f 63, f 64, f 65, f 66, f 67, f 68, f 69, f 70, f 71, f 72, f 73, f 74, f 75, f 76, f 77, f 78, f 79, f 80, f 81, f 82, f 83, f 84, f 85, f 86, f 87, f 88, f 89, f 90, f 91, f 92, f 93, f 94, f 95, f 96, f 97, f 98, f 99, f 100, f 101, f 102, f 103, f 104, f 105, f 106, f 107, f 108, f 109, f 110, f 111, f 112, f 113, f 114, f 115, f 116, f 117, f 118, f 119, f 120, f 121, f 122, f 123, f 124, f 125, f 126, f 127, f 128, f 129, f 130, f 131, f 132, f 133, f 134, f 135, f 136, f 137, f 138, f 139, f 140, f 141, f 142, f 143, f 144, f 145, f 146, f 147, f 148, f 149, f 150, f 151, f 152, f 153, f 154, f 155, f 156, f 157, f 158, f 159, f 160, f 161, f 162, f 163, f 164, f 165, f 166, f 167, f 168, f 169, f 170, f 171, f 172, f 173, f 174, f 175, f 176, f 177, f 178, f 179, f 180, f 181, f 182, f 183, f 184, f 185, f 186, f 187, f 188, f 189, f 190, f 191, f 192, f 193, f 194, f 195, f 196, f 197, f 198, f 199, f 200, f 201, f 202, f 203, f 204, f 205, f 206, f 207, f 208, f 209, f 210, f 211, f 212, f 213, f 214, f 215, f 216, f 217, f 218, f 219, f 220, f 221, f 222, f 223, f 224, f 225, f 226, f 227, f 228, f 229, f 230, f 231, f 232, f 233, f 234, f 235, f 236, f 237, f 238, f 239, f 240, f 241, f 242, f 243, f 244, f 245, f 246], defers := [] } wr := by
  obtain ⟨v, hv, c0, c1, c2, c3⟩ := hE.prog k _ hi
  have hkl : k < J.length := (List.getElem?_eq_some_iff.1 hi).1
  have hL := hE.small
  have hM1 : M ≤ 2 * J.length + 4 := Nat.le_of_eq hE.two
  have hM2 : 2 * J.length + 4 ≤ M := Nat.le_of_eq hE.two.symm
  have hbc : ∀ (j : Nat) (u : Value), w4.cell? ⟨ig, j, none⟩ = some u → wr.cell? ⟨ig, j, none⟩ = some u := fun j u h => (hR.below0.cell hE.igB).trans h
  have c0 := hbc _ _ c0
  have c1 := hbc _ _ c1
  have c2 := hbc _ _ c2
  have c3 := hbc _ _ c3
  clear hbc
  have hki : (k : Int) < (J.length : Int) := by omega
  have HE := Lib.hid hE
  have HR := Lib.hid hR
  have HK := Lib.hid hK
  have HI := Lib.hid hi
  clear hE hR hK hi
  simp only [insF] at c0 c2 c3
  obtain rfl : v = .nilIface := by
    rcases hv with h | ⟨⟨c, hc⟩, _⟩
    · exact h
    · cases hc
  conv => arg 2; whnf
  have tn1 : decide ((n : Int) < 0) = false := decide_eq_false (by omega)
  have tn2 : decide ((M : Int) ≤ (n : Int) + 1) = false := decide_eq_false (by omega)
  have hnM : (n : Int) < (M : Int) := by omega
  have hnM1 : (n : Int) + 1 < (M : Int) := by omega
  have tn3 : decide (2 ≤ (n : Int)) = true := decide_eq_true (by omega)
  have hq : cntL (J.take k) n ≤ 100000 := by have := cnt_le (J.take k) n; rw [List.length_take] at this; omega
  have hq1 : cntL (J.take k) (n + 1) ≤ 100000 := by have := cnt_le (J.take k) (n + 1); rw [List.length_take] at this; omega
  have htp : topF J k ≤ 100000 := by have := top_le HE.out.ok k (by omega); omega
  have tn4 : decide ((topF J k : Int) < (n : Int)) = true := decide_eq_true (by omega)
  go_wp2_with fail
  refine (fields_any _ _ _ _ _).mono ?_
  rintro e w5 ⟨rfl, hb5⟩
  have HR5 := Lib.hid (HR.out.below hb5 HE.out.Bs)
  clear hb5 c0 c1 c2 c3
  have HD := Lib.hid HE.out.dis
  go_upto_region 42 with (fail)
  have k1 := HR5.out.cnt.cell (i := n) (by omega)
  have f1 := HR5.out.cnt.frozen n
  go_upto_region 43 with (fail)
  generalize hw6 : World.setCell w5 _ _ = w6
  have HC6 : Hid (w6.rowIs g1 3 M (fun j => if j = n then .int .i64 ((cntL (J.take k) n : Int) + 1) else .int .i64 (cntL (J.take k) j : Int))) := by subst hw6; exact Lib.hid (HR5.out.cnt.set n _)
  have HA6 : Hid (w6.rowIs g2 3 M (fun j => .int .i64 (atF J k j : Int))) := by subst hw6; exact Lib.hid (HR5.out.ats.setOther (by exact HD.out.1.symm) _)
  have HP6 : Hid (w6.rowIs g3 4 M (fun j => .bool (hasP (J.take k) j))) := by subst hw6; exact Lib.hid (HR5.out.ps.setOther (by exact HD.out.2.1.symm) _)
  have HB6 : Hid (Below B w4 w6) := by subst hw6; exact Lib.hid (HR5.out.below0.setCell (by exact HE.out.g1B) _)
  clear hw6 k1 f1
  have k2 := HA6.out.cell (i := n) (by omega)
  have f2 := HA6.out.frozen n
  go_upto_region 44 with (fail)
  generalize hw7 : World.setCell w6 _ _ = w7
  have HC7 : Hid (w7.rowIs g1 3 M (fun j => if j = n then .int .i64 ((cntL (J.take k) n : Int) + 1) else .int .i64 (cntL (J.take k) j : Int))) := by subst hw7; exact Lib.hid (HC6.out.setOther (by exact HD.out.1) _)
  have HA7 : Hid (w7.rowIs g2 3 M (fun j => if j = n then .int .i64 (k : Int) else .int .i64 (atF J k j : Int))) := by subst hw7; exact Lib.hid (HA6.out.set n _)
  have HP7 : Hid (w7.rowIs g3 4 M (fun j => .bool (hasP (J.take k) j))) := by subst hw7; exact Lib.hid (HP6.out.setOther (by exact HD.out.2.2.symm) _)
  have HB7 : Hid (Below B w4 w7) := by subst hw7; exact Lib.hid (HB6.out.setCell (by exact HE.out.g2B) _)
  clear hw7 k2 f2
  go_wp2_with fail
  exact HK.out _ _ ⟨rfl, rfl, rfl, rfl, rfl, rfl, rfl, rfl⟩ ⟨int_is' (by rw [top_next HI.out, topI, if_pos ⟨h2, h4⟩]), int_is' (by omega), save_rows HI.out h2 HC7.out HA7.out HP7.out HB7.out⟩
set_option maxRecDepth 1000000 in
set_option maxHeartbeats 4000000 in
theorem lr_saveDn {w4 wr : World} {s : ByteArray} {J : List Ins} {ig icap B M g1 g2 g3 k : Nat} {K : Act → World → Prop} (hE : LEnv w4 J B ig M g1 g2 g3) (hR : LRows w4 wr J B M g1 g2 g3 k)
    (hK : ∀ a' w', LFr s J ig icap M g1 g2 g3 a' → LRel w4 J B M g1 g2 g3 w' (k + 1) a' → K a' w')
    {n : Nat} (hi : J[k]? = some (.save n)) (hn : n < 2 * J.length + 2) (h2 : 2 ≤ n) (h4 : ¬ topF J k < n) (f : Nat → Value) :
    lawBody.wp Tryf.prog (Exit.then K (LQ w4 s J B ig icap M g1 g2 g3)) { tmps := #[.string s, f 1, f 2, f 3, f 4, f 5, f 6, f 7, .slice (some ⟨ig, 0, none⟩) J.length icap, .int .i64 (J.length : Int), f 10, f 11, f 12, f 13, f 14, f 15, f 16, f 17, f 18, .slice (some ⟨g1, 0, none⟩) M M, .slice (some ⟨g2, 0, none⟩) M M, .slice (some ⟨g3, 0, none⟩) M M, .int .i64 (topF J k : Int), .int .i64 (k : Int), f 24, f 25, f 26, f 27, f 28, f 29, f 30, f 31, f 32, f 33, f 34, f 35, f 36, f 37, f 38, f 39, f 40, f 41, f 42, f 43, f 44, f 45, f 46, f 47, f 48, f 49, f 50, f 51, f 52, f 53, f 54, f 55, f 56, f 57, f 58, f 59, f 60, f 61, f 62, f 63, f 64, f 65, f 66, f 67, f 68, f 69, f 70, f 71, f 72, f 73, f 74, f 75, f 76, f 77, f 78, f 79, f 80, f 81, f 82, f 83, f 84, f 85, f 86, f 87, f 88, f 89, f 90, f 91, f 92, f 93, f 94, f 95, f 96, f 97, f 98, f 99, f 100, f 101, f 102, f 103, f 104, f 105, f 106, f 107, f 108, f 109, f 110, f 111, f 112, f 113, f 114, f 115, f 116, f 117, f 118, f 119, f 120, f 121, f 122, f 123, f 124, f 125, f 126, f 127, f 128, f 129, f 130, f 131, f 132, f 133, f 134, f 135, f 136, f 137, f 138, f 139, f 140, f 141, f 142, f 143, f 144, f 145, f 146, f 147, f 148, f 149, f 150, f 151, f 152, f 153, f 154, f 155, f 156, f 157, f 158, f 159, f 160, f 161, f 162, f 163, f 164, f 165, f 166, f 167, f 168, f 169, f 170, f 171, f 172, f 173, f 174, f 175, f 176, f 177, f 178, f 179, f 180, f 181, f 182, f 183, f 184, f 185, f 186, f 187, f 188, f 189, f 190, f 191, f 192, f 193, f 194, f 195, f 196, f 197, f 198, f 199, f 200, f 201, f 202, f 203, f 204, f 205, f 206, f 207, f 208, f 209, f 210, f 211, f 212, f 213, f 214, f 215, f 216, f 217, f 218, f 219, f 220, f 221, f 222, f 223, f 224, f 225, f 226, f 227, f 228, f 229, f 230, f 231, f 232, f 233, f 234, f 235, f 236, f 237, f 238, f 239, f 240, f 241, f 242, f 243, f 244, f 245, f 246], defers := [] } wr := by
  obtain ⟨v, hv, c0, c1, c2, c3⟩ := hE.prog k _ hi
  have hkl : k < J.length := (List.getElem?_eq_some_iff.1 hi).1
  have hL := hE.small
  have hM1 : M ≤ 2 * J.length + 4 := Nat.le_of_eq hE.two
  have hM2 : 2 * J.length + 4 ≤ M := Nat.le_of_eq hE.two.symm
  have hbc : ∀ (j : Nat) (u : Value), w4.cell? ⟨ig, j, none⟩ = some u → wr.cell? ⟨ig, j, none⟩ = some u := fun j u h => (hR.below0.cell hE.igB).trans h
  have c0 := hbc _ _ c0
  have c1 := hbc _ _ c1
  have c2 := hbc _ _ c2
  have c3 := hbc _ _ c3
  clear hbc
  have hki : (k : Int) < (J.length : Int) := by omega
  have HE := Lib.hid hE
  have HR := Lib.hid hR
  have HK := Lib.hid hK
  have HI := Lib.hid hi
  clear hE hR hK hi
  simp only [insF] at c0 c2 c3
  obtain rfl : v = .nilIface := by
    rcases hv with h | ⟨⟨c, hc⟩, _⟩
    · exact h
    · cases hc
  conv => arg 2; whnf
  have tn1 : decide ((n : Int) < 0) = false := decide_eq_false (by omega)
  have tn2 : decide ((M : Int) ≤ (n : Int) + 1) = false := decide_eq_false (by omega)
  have hnM : (n : Int) < (M : Int) := by omega
  have hnM1 : (n : Int) + 1 < (M : Int) := by omega
  have tn3 : decide (2 ≤ (n : Int)) = true := decide_eq_true (by omega)
  have hq : cntL (J.take k) n ≤ 100000 := by have := cnt_le (J.take k) n; rw [List.length_take] at this; omega
  have hq1 : cntL (J.take k) (n + 1) ≤ 100000 := by have := cnt_le (J.take k) (n + 1); rw [List.length_take] at this; omega
  have htp : topF J k ≤ 100000 := by have := top_le HE.out.ok k (by omega); omega
  have tn4 : decide ((topF J k : Int) < (n : Int)) = false := decide_eq_false (by omega)
  go_wp2_with fail
  refine (fields_any _ _ _ _ _).mono ?_
  rintro e w5 ⟨rfl, hb5⟩
  have HR5 := Lib.hid (HR.out.below hb5 HE.out.Bs)
  clear hb5 c0 c1 c2 c3
  have HD := Lib.hid HE.out.dis
  go_upto_region 42 with (fail)
  have k1 := HR5.out.cnt.cell (i := n) (by omega)
  have f1 := HR5.out.cnt.frozen n
  go_upto_region 43 with (fail)
  generalize hw6 : World.setCell w5 _ _ = w6
  have HC6 : Hid (w6.rowIs g1 3 M (fun j => if j = n then .int .i64 ((cntL (J.take k) n : Int) + 1) else .int .i64 (cntL (J.take k) j : Int))) := by subst hw6; exact Lib.hid (HR5.out.cnt.set n _)
  have HA6 : Hid (w6.rowIs g2 3 M (fun j => .int .i64 (atF J k j : Int))) := by subst hw6; exact Lib.hid (HR5.out.ats.setOther (by exact HD.out.1.symm) _)
  have HP6 : Hid (w6.rowIs g3 4 M (fun j => .bool (hasP (J.take k) j))) := by subst hw6; exact Lib.hid (HR5.out.ps.setOther (by exact HD.out.2.1.symm) _)
  have HB6 : Hid (Below B w4 w6) := by subst hw6; exact Lib.hid (HR5.out.below0.setCell (by exact HE.out.g1B) _)
  clear hw6 k1 f1
  have k2 := HA6.out.cell (i := n) (by omega)
  have f2 := HA6.out.frozen n
  go_upto_region 44 with (fail)
  generalize hw7 : World.setCell w6 _ _ = w7
  have HC7 : Hid (w7.rowIs g1 3 M (fun j => if j = n then .int .i64 ((cntL (J.take k) n : Int) + 1) else .int .i64 (cntL (J.take k) j : Int))) := by subst hw7; exact Lib.hid (HC6.out.setOther (by exact HD.out.1) _)
  have HA7 : Hid (w7.rowIs g2 3 M (fun j => if j = n then .int .i64 (k : Int) else .int .i64 (atF J k j : Int))) := by subst hw7; exact Lib.hid (HA6.out.set n _)
  have HP7 : Hid (w7.rowIs g3 4 M (fun j => .bool (hasP (J.take k) j))) := by subst hw7; exact Lib.hid (HP6.out.setOther (by exact HD.out.2.2.symm) _)
  have HB7 : Hid (Below B w4 w7) := by subst hw7; exact Lib.hid (HB6.out.setCell (by exact HE.out.g2B) _)
  clear hw7 k2 f2
  go_wp2_with fail
  exact HK.out _ _ ⟨rfl, rfl, rfl, rfl, rfl, rfl, rfl, rfl⟩ ⟨int_is' (by rw [top_next HI.out, topI, if_neg (fun h => h4 h.2)]), int_is' (by omega), save_rows HI.out h2 HC7.out HA7.out HP7.out HB7.out⟩


set_option maxRecDepth 1000000 in
set_option maxHeartbeats 4000000 in
theorem lr_psaveUp {w4 wr : World} {s : ByteArray} {J : List Ins} {ig icap B M g1 g2 g3 k : Nat} {K : Act → World → Prop} (hE : LEnv w4 J B ig M g1 g2 g3) (hR : LRows w4 wr J B M g1 g2 g3 k)
    (hK : ∀ a' w', LFr s J ig icap M g1 g2 g3 a' → LRel w4 J B M g1 g2 g3 w' (k + 1) a' → K a' w')
    {n : Nat} (hi : J[k]? = some (.psave n)) (hn : n + 1 < 2 * J.length + 2) (h2 : 2 ≤ n) (hev : n % 2 = 0) (h4 : topF J k < n) (f : Nat → Value) :
    lawBody.wp Tryf.prog (Exit.then K (LQ w4 s J B ig icap M g1 g2 g3)) { tmps := #[.string s, f 1, f 2, f 3, f 4, f 5, f 6, f 7, .slice (some ⟨ig, 0, none⟩) J.length icap, .int .i64 (J.length : Int), f 10, f 11, f 12, f 13, f 14, f 15, f 16, f 17, f 18, .slice (some ⟨g1, 0, none⟩) M M, .slice (some ⟨g2, 0, none⟩) M M, .slice (some ⟨g3, 0, none⟩) M M, .int .i64 (topF J k : Int), .int .i64 (k : Int), f 24, f 25, f 26, f 27, f 28, f 29, f 30, f 31, f 32, f 33, f 34, f 35, f 36, f 37, f 38, f 39, f 40, f 41, f 42, f 43, f 44, f 45, f 46, f 47, f 48, f 49, f 50, f 51, f 52, f 53, f 54, f 55, f 56, f 57, f 58, f 59, f 60, f 61, f 62, f 63, f 64, f 65, f 66, f 67, f 68, f 69, f 70, f 71, f 72, f 73, f 74, f 75, f 76, f 77, f 78, f 79, f 80, f 81, f 82, f 83, f 84, f 85, f 86, f 87, f 88, f 89, f 90, f 91, f 92, f 93, f 94, f 95, f 96, f 97, f 98, f 99, f 100, f 101, f 102, f 103, f 104, f 105, f 106, f 107, f 108, f 109, f 110, f 111, f 112, f 113, f 114, f 115, f 116, f 117, f 118, f 119, f 120, f 121, f 122, f 123, f 124, f 125, f 126, f 127, f 128, f 129, f 130, f 131, f 132, f 133, f 134, f 135, f 136, f 137, f 138, f 139, f 140, f 141, f 142, f 143, f 144, f 145, f 146, f 147, f 148, f 149, f 150, f 151, f 152, f 153, f 154, f 155, f 156, f 157, f 158, f 159, f 160, f 161, f 162, f 163, f 164, f 165, f 166, f 167, f 168, f 169, f 170, f 171, f 172, f 173, f 174, f 175, f 176, f 177, f 178, f 179, f 180, f 181, f 182, f 183, f 184, f 185, f 186, f 187, f 188, f 189, f 190, f 191, f 192, f 193, f 194, f 195, f 196, f 197, f 198, f 199, f 200, f 201, f 202, f 203, f 204, f 205, f 206, f 207, f 208, f 209, f 210, f 211, f 212, f 213, f 214, f 215, f 216, f 217, f 218, f 219, f 220, f 221, f 222, f 223, f 224, f 225, f 226, f 227, f 228, f 229, f 230, f 231, f 232, f 233, f 234, f 235, f 236, f 237, f 238, f 239, f 240, f 241, f 242, f 243, f 244, f 245, f 246], defers := [] } wr := by
  obtain ⟨v, hv, c0, c1, c2, c3⟩ := hE.prog k _ hi
  have hkl : k < J.length := (List.getElem?_eq_some_iff.1 hi).1
  have hL := hE.small
  have hM1 : M ≤ 2 * J.length + 4 := Nat.le_of_eq hE.two
  have hM2 : 2 * J.length + 4 ≤ M := Nat.le_of_eq hE.two.symm
  have hbc : ∀ (j : Nat) (u : Value), w4.cell? ⟨ig, j, none⟩ = some u → wr.cell? ⟨ig, j, none⟩ = some u := fun j u h => (hR.below0.cell hE.igB).trans h
  have c0 := hbc _ _ c0
  have c1 := hbc _ _ c1
  have c2 := hbc _ _ c2
  have c3 := hbc _ _ c3
  clear hbc
  have hki : (k : Int) < (J.length : Int) := by omega
  have HE := Lib.hid hE
  have HR := Lib.hid hR
  have HK := Lib.hid hK
  have HI := Lib.hid hi
  clear hE hR hK hi
  simp only [insF] at c0 c2 c3
  obtain rfl : v = .nilIface := by
    rcases hv with h | ⟨⟨c, hc⟩, _⟩
    · exact h
    · cases hc
  conv => arg 2; whnf
  have tn1 : decide ((n : Int) < 0) = false := decide_eq_false (by omega)
  have tn2 : decide ((M : Int) ≤ (n : Int) + 1) = false := decide_eq_false (by omega)
  have hnM : (n : Int) < (M : Int) := by omega
  have hnM1 : (n : Int) + 1 < (M : Int) := by omega
  have tn3 : decide (2 ≤ (n : Int)) = true := decide_eq_true (by omega)
  have tn6 : (Int.tmod (n : Int) 2 == 0) = true := by rw [beq_iff_eq, Int.tmod_eq_emod_of_nonneg (by omega)]; omega
  have tn7 : Int.tmod (n : Int) 2 = 0 := by rw [Int.tmod_eq_emod_of_nonneg (by omega)]; omega
  have hq : cntL (J.take k) n ≤ 100000 := by have := cnt_le (J.take k) n; rw [List.length_take] at this; omega
  have hq1 : cntL (J.take k) (n + 1) ≤ 100000 := by have := cnt_le (J.take k) (n + 1); rw [List.length_take] at this; omega
  have htp : topF J k ≤ 100000 := by have := top_le HE.out.ok k (by omega); omega
  have tn4 : decide ((topF J k : Int) < (n : Int)) = true := decide_eq_true (by omega)
  have tn5 : decide ((n : Int) < (n : Int) + 1) = true := decide_eq_true (by omega)
  go_wp2_with fail
  refine (fields_any _ _ _ _ _).mono ?_
  rintro e w5 ⟨rfl, hb5⟩
  have HR5 := Lib.hid (HR.out.below hb5 HE.out.Bs)
  clear hb5 c0 c1 c2 c3
  have HD := Lib.hid HE.out.dis
  go_upto_region 42 with (fail)
  have k1 := HR5.out.cnt.cell (i := n) (by omega)
  have f1 := HR5.out.cnt.frozen n
  go_upto_region 43 with (fail)
  generalize hw6 : World.setCell w5 _ _ = w6
  have HC6 : Hid (w6.rowIs g1 3 M (fun j => if j = n then .int .i64 ((cntL (J.take k) n : Int) + 1) else .int .i64 (cntL (J.take k) j : Int))) := by subst hw6; exact Lib.hid (HR5.out.cnt.set n _)
  have HA6 : Hid (w6.rowIs g2 3 M (fun j => .int .i64 (atF J k j : Int))) := by subst hw6; exact Lib.hid (HR5.out.ats.setOther (by exact HD.out.1.symm) _)
  have HP6 : Hid (w6.rowIs g3 4 M (fun j => .bool (hasP (J.take k) j))) := by subst hw6; exact Lib.hid (HR5.out.ps.setOther (by exact HD.out.2.1.symm) _)
  have HB6 : Hid (Below B w4 w6) := by subst hw6; exact Lib.hid (HR5.out.below0.setCell (by exact HE.out.g1B) _)
  clear hw6 k1 f1
  have k2 := HA6.out.cell (i := n) (by omega)
  have f2 := HA6.out.frozen n
  go_upto_region 44 with (fail)
  generalize hw7 : World.setCell w6 _ _ = w7
  have HC7 : Hid (w7.rowIs g1 3 M (fun j => if j = n then .int .i64 ((cntL (J.take k) n : Int) + 1) else .int .i64 (cntL (J.take k) j : Int))) := by subst hw7; exact Lib.hid (HC6.out.setOther (by exact HD.out.1) _)
  have HA7 : Hid (w7.rowIs g2 3 M (fun j => if j = n then .int .i64 (k : Int) else .int .i64 (atF J k j : Int))) := by subst hw7; exact Lib.hid (HA6.out.set n _)
  have HP7 : Hid (w7.rowIs g3 4 M (fun j => .bool (hasP (J.take k) j))) := by subst hw7; exact Lib.hid (HP6.out.setOther (by exact HD.out.2.2.symm) _)
  have HB7 : Hid (Below B w4 w7) := by subst hw7; exact Lib.hid (HB6.out.setCell (by exact HE.out.g2B) _)
  clear hw7 k2 f2
  go_upto_region 49 with (fail)
  have k1 := HC7.out.cell (i := n + 1) (by omega)
  rw [if_neg (by omega)] at k1
  have f1 := HC7.out.frozen (n + 1)
  go_upto_region 50 with (fail)
  generalize hw8 : World.setCell w7 _ _ = w8
  have HC8 : Hid (w8.rowIs g1 3 M (fun j => if j = n + 1 then .int .i64 ((cntL (J.take k) (n + 1) : Int) + 1) else if j = n then .int .i64 ((cntL (J.take k) n : Int) + 1) else .int .i64 (cntL (J.take k) j : Int))) := by subst hw8; exact Lib.hid (HC7.out.set (n + 1) _)
  have HA8 : Hid (w8.rowIs g2 3 M (fun j => if j = n then .int .i64 (k : Int) else .int .i64 (atF J k j : Int))) := by subst hw8; exact Lib.hid (HA7.out.setOther (by exact HD.out.1.symm) _)
  have HP8 : Hid (w8.rowIs g3 4 M (fun j => .bool (hasP (J.take k) j))) := by subst hw8; exact Lib.hid (HP7.out.setOther (by exact HD.out.2.1.symm) _)
  have HB8 : Hid (Below B w4 w8) := by subst hw8; exact Lib.hid (HB7.out.setCell (by exact HE.out.g1B) _)
  clear hw8 k1 f1
  have k2 := HA8.out.cell (i := n + 1) (by omega)
  rw [if_neg (by omega)] at k2
  have f2 := HA8.out.frozen (n + 1)
  go_upto_region 51 with (fail)
  generalize hw9 : World.setCell w8 _ _ = w9
  have HC9 : Hid (w9.rowIs g1 3 M (fun j => if j = n + 1 then .int .i64 ((cntL (J.take k) (n + 1) : Int) + 1) else if j = n then .int .i64 ((cntL (J.take k) n : Int) + 1) else .int .i64 (cntL (J.take k) j : Int))) := by subst hw9; exact Lib.hid (HC8.out.setOther (by exact HD.out.1) _)
  have HA9 : Hid (w9.rowIs g2 3 M (fun j => if j = n + 1 then .int .i64 (k : Int) else if j = n then .int .i64 (k : Int) else .int .i64 (atF J k j : Int))) := by subst hw9; exact Lib.hid (HA8.out.set (n + 1) _)
  have HP9 : Hid (w9.rowIs g3 4 M (fun j => .bool (hasP (J.take k) j))) := by subst hw9; exact Lib.hid (HP8.out.setOther (by exact HD.out.2.2.symm) _)
  have HB9 : Hid (Below B w4 w9) := by subst hw9; exact Lib.hid (HB8.out.setCell (by exact HE.out.g2B) _)
  clear hw9 k2 f2
  have k3 := HP9.out.cell (i := n) (by omega)
  have f3 := HP9.out.frozen n
  go_upto_region 52 with (fail)
  generalize hw10 : World.setCell w9 _ _ = w10
  have HC10 : Hid (w10.rowIs g1 3 M (fun j => if j = n + 1 then .int .i64 ((cntL (J.take k) (n + 1) : Int) + 1) else if j = n then .int .i64 ((cntL (J.take k) n : Int) + 1) else .int .i64 (cntL (J.take k) j : Int))) := by subst hw10; exact Lib.hid (HC9.out.setOther (by exact HD.out.2.1) _)
  have HA10 : Hid (w10.rowIs g2 3 M (fun j => if j = n + 1 then .int .i64 (k : Int) else if j = n then .int .i64 (k : Int) else .int .i64 (atF J k j : Int))) := by subst hw10; exact Lib.hid (HA9.out.setOther (by exact HD.out.2.2) _)
  have HP10 : Hid (w10.rowIs g3 4 M (fun j => if j = n then .bool true else .bool (hasP (J.take k) j))) := by subst hw10; exact Lib.hid (HP9.out.set n _)
  have HB10 : Hid (Below B w4 w10) := by subst hw10; exact Lib.hid (HB9.out.setCell (by exact HE.out.g3B) _)
  clear hw10 k3 f3
  go_wp2_with fail
  exact HK.out _ _ ⟨rfl, rfl, rfl, rfl, rfl, rfl, rfl, rfl⟩ ⟨int_is' (by rw [top_next HI.out, topI, if_pos h2, Nat.max_eq_left (by omega)]; omega), int_is' (by omega), psave_rows HI.out h2 HC10.out HA10.out HP10.out HB10.out⟩
set_option maxRecDepth 1000000 in
set_option maxHeartbeats 4000000 in
theorem lr_psaveEq {w4 wr : World} {s : ByteArray} {J : List Ins} {ig icap B M g1 g2 g3 k : Nat} {K : Act → World → Prop} (hE : LEnv w4 J B ig M g1 g2 g3) (hR : LRows w4 wr J B M g1 g2 g3 k)
    (hK : ∀ a' w', LFr s J ig icap M g1 g2 g3 a' → LRel w4 J B M g1 g2 g3 w' (k + 1) a' → K a' w')
    {n : Nat} (hi : J[k]? = some (.psave n)) (hn : n + 1 < 2 * J.length + 2) (h2 : 2 ≤ n) (hev : n % 2 = 0) (h4 : topF J k = n) (f : Nat → Value) :
    lawBody.wp Tryf.prog (Exit.then K (LQ w4 s J B ig icap M g1 g2 g3)) { tmps := #[.string s, f 1, f 2, f 3, f 4, f 5, f 6, f 7, .slice (some ⟨ig, 0, none⟩) J.length icap, .int .i64 (J.length : Int), f 10, f 11, f 12, f 13, f 14, f 15, f 16, f 17, f 18, .slice (some ⟨g1, 0, none⟩) M M, .slice (some ⟨g2, 0, none⟩) M M, .slice (some ⟨g3, 0, none⟩) M M, .int .i64 (topF J k : Int), .int .i64 (k : Int), f 24, f 25, f 26, f 27, f 28, f 29, f 30, f 31, f 32, f 33, f 34, f 35, f 36, f 37, f 38, f 39, f 40, f 41, f 42, f 43, f 44, f 45, f 46, f 47, f 48, f 49, f 50, f 51, f 52, f 53, f 54, f 55, f 56, f 57, f 58, f 59, f 60, f 61, f 62, f 63, f 64, f 65, f 66, f 67, f 68, f 69, f 70, f 71, f 72, f 73, f 74, f 75, f 76, f 77, f 78, f 79, f 80, f 81, f 82, f 83, f 84, f 85, f 86, f 87, f 88, f 89, f 90, f 91, f 92, f 93, f 94, f 95, f 96, f 97, f 98, f 99, f 100, f 101, f 102, f 103, f 104, f 105, f 106, f 107, f 108, f 109, f 110, f 111, f 112, f 113, f 114, f 115, f 116, f 117, f 118, f 119, f 120, f 121, f 122, f 123, f 124, f 125, f 126, f 127, f 128, f 129, f 130, f 131, f 132, f 133, f 134, f 135, f 136, f 137, f 138, f 139, f 140, f 141, f 142, f 143, f 144, f 145, f 146, f 147, f 148, f 149, f 150, f 151, f 152, f 153, f 154, f 155, f 156, f 157, f 158, f 159, f 160, f 161, f 162, f 163, f 164, f 165, f 166, f 167, f 168, f 169, f 170, f 171, f 172, f 173, f 174, f 175, f 176, f 177, f 178, f 179, f 180, f 181, f 182, f 183, f 184, f 185, f 186, f 187, f 188, f 189, f 190, f 191, f 192, f 193, f 194, f 195, f 196, f 197, f 198, f 199, f 200, f 201, f 202, f 203, f 204, f 205, f 206, f 207, f 208, f 209, f 210, f 211, f 212, f 213, f 214, f 215, f 216, f 217, f 218, f 219, f 220, f 221, f 222, f 223, f 224, f 225, f 226, f 227, f 228, f 229, f 230, f 231, f 232, f 233, f 234, f 235, f 236, f 237, f 238, f 239, f 240, f 241, f 242, f 243, f 244, f 245, f 246], defers := [] } wr := by
  obtain ⟨v, hv, c0, c1, c2, c3⟩ := hE.prog k _ hi
  have hkl : k < J.length := (List.getElem?_eq_some_iff.1 hi).1
  have hL := hE.small
  have hM1 : M ≤ 2 * J.length + 4 := Nat.le_of_eq hE.two
  have hM2 : 2 * J.length + 4 ≤ M := Nat.le_of_eq hE.two.symm
  have hbc : ∀ (j : Nat) (u : Value), w4.cell? ⟨ig, j, none⟩ = some u → wr.cell? ⟨ig, j, none⟩ = some u := fun j u h => (hR.below0.cell hE.igB).trans h
  have c0 := hbc _ _ c0
  have c1 := hbc _ _ c1
  have c2 := hbc _ _ c2
  have c3 := hbc _ _ c3
  clear hbc
  have hki : (k : Int) < (J.length : Int) := by omega
  have HE := Lib.hid hE
  have HR := Lib.hid hR
  have HK := Lib.hid hK
  have HI := Lib.hid hi
  clear hE hR hK hi
  simp only [insF] at c0 c2 c3
  obtain rfl : v = .nilIface := by
    rcases hv with h | ⟨⟨c, hc⟩, _⟩
    · exact h
    · cases hc
  conv => arg 2; whnf
  have tn1 : decide ((n : Int) < 0) = false := decide_eq_false (by omega)
  have tn2 : decide ((M : Int) ≤ (n : Int) + 1) = false := decide_eq_false (by omega)
  have hnM : (n : Int) < (M : Int) := by omega
  have hnM1 : (n : Int) + 1 < (M : Int) := by omega
  have tn3 : decide (2 ≤ (n : Int)) = true := decide_eq_true (by omega)
  have tn6 : (Int.tmod (n : Int) 2 == 0) = true := by rw [beq_iff_eq, Int.tmod_eq_emod_of_nonneg (by omega)]; omega
  have tn7 : Int.tmod (n : Int) 2 = 0 := by rw [Int.tmod_eq_emod_of_nonneg (by omega)]; omega
  have hq : cntL (J.take k) n ≤ 100000 := by have := cnt_le (J.take k) n; rw [List.length_take] at this; omega
  have hq1 : cntL (J.take k) (n + 1) ≤ 100000 := by have := cnt_le (J.take k) (n + 1); rw [List.length_take] at this; omega
  have htp : topF J k ≤ 100000 := by have := top_le HE.out.ok k (by omega); omega
  have tn4 : decide ((topF J k : Int) < (n : Int)) = false := decide_eq_false (by omega)
  have tn5 : decide ((topF J k : Int) < (n : Int) + 1) = true := decide_eq_true (by omega)
  go_wp2_with fail
  refine (fields_any _ _ _ _ _).mono ?_
  rintro e w5 ⟨rfl, hb5⟩
  have HR5 := Lib.hid (HR.out.below hb5 HE.out.Bs)
  clear hb5 c0 c1 c2 c3
  have HD := Lib.hid HE.out.dis
  go_upto_region 42 with (fail)
  have k1 := HR5.out.cnt.cell (i := n) (by omega)
  have f1 := HR5.out.cnt.frozen n
  go_upto_region 43 with (fail)
  generalize hw6 : World.setCell w5 _ _ = w6
  have HC6 : Hid (w6.rowIs g1 3 M (fun j => if j = n then .int .i64 ((cntL (J.take k) n : Int) + 1) else .int .i64 (cntL (J.take k) j : Int))) := by subst hw6; exact Lib.hid (HR5.out.cnt.set n _)
  have HA6 : Hid (w6.rowIs g2 3 M (fun j => .int .i64 (atF J k j : Int))) := by subst hw6; exact Lib.hid (HR5.out.ats.setOther (by exact HD.out.1.symm) _)
  have HP6 : Hid (w6.rowIs g3 4 M (fun j => .bool (hasP (J.take k) j))) := by subst hw6; exact Lib.hid (HR5.out.ps.setOther (by exact HD.out.2.1.symm) _)
  have HB6 : Hid (Below B w4 w6) := by subst hw6; exact Lib.hid (HR5.out.below0.setCell (by exact HE.out.g1B) _)
  clear hw6 k1 f1
  have k2 := HA6.out.cell (i := n) (by omega)
  have f2 := HA6.out.frozen n
  go_upto_region 44 with (fail)
  generalize hw7 : World.setCell w6 _ _ = w7
  have HC7 : Hid (w7.rowIs g1 3 M (fun j => if j = n then .int .i64 ((cntL (J.take k) n : Int) + 1) else .int .i64 (cntL (J.take k) j : Int))) := by subst hw7; exact Lib.hid (HC6.out.setOther (by exact HD.out.1) _)
  have HA7 : Hid (w7.rowIs g2 3 M (fun j => if j = n then .int .i64 (k : Int) else .int .i64 (atF J k j : Int))) := by subst hw7; exact Lib.hid (HA6.out.set n _)
  have HP7 : Hid (w7.rowIs g3 4 M (fun j => .bool (hasP (J.take k) j))) := by subst hw7; exact Lib.hid (HP6.out.setOther (by exact HD.out.2.2.symm) _)
  have HB7 : Hid (Below B w4 w7) := by subst hw7; exact Lib.hid (HB6.out.setCell (by exact HE.out.g2B) _)
  clear hw7 k2 f2
  go_upto_region 49 with (fail)
  have k1 := HC7.out.cell (i := n + 1) (by omega)
  rw [if_neg (by omega)] at k1
  have f1 := HC7.out.frozen (n + 1)
  go_upto_region 50 with (fail)
  generalize hw8 : World.setCell w7 _ _ = w8
  have HC8 : Hid (w8.rowIs g1 3 M (fun j => if j = n + 1 then .int .i64 ((cntL (J.take k) (n + 1) : Int) + 1) else if j = n then .int .i64 ((cntL (J.take k) n : Int) + 1) else .int .i64 (cntL (J.take k) j : Int))) := by subst hw8; exact Lib.hid (HC7.out.set (n + 1) _)
  have HA8 : Hid (w8.rowIs g2 3 M (fun j => if j = n then .int .i64 (k : Int) else .int .i64 (atF J k j : Int))) := by subst hw8; exact Lib.hid (HA7.out.setOther (by exact HD.out.1.symm) _)
  have HP8 : Hid (w8.rowIs g3 4 M (fun j => .bool (hasP (J.take k) j))) := by subst hw8; exact Lib.hid (HP7.out.setOther (by exact HD.out.2.1.symm) _)
  have HB8 : Hid (Below B w4 w8) := by subst hw8; exact Lib.hid (HB7.out.setCell (by exact HE.out.g1B) _)
  clear hw8 k1 f1
  have k2 := HA8.out.cell (i := n + 1) (by omega)
  rw [if_neg (by omega)] at k2
  have f2 := HA8.out.frozen (n + 1)
  go_upto_region 51 with (fail)
  generalize hw9 : World.setCell w8 _ _ = w9
  have HC9 : Hid (w9.rowIs g1 3 M (fun j => if j = n + 1 then .int .i64 ((cntL (J.take k) (n + 1) : Int) + 1) else if j = n then .int .i64 ((cntL (J.take k) n : Int) + 1) else .int .i64 (cntL (J.take k) j : Int))) := by subst hw9; exact Lib.hid (HC8.out.setOther (by exact HD.out.1) _)
  have HA9 : Hid (w9.rowIs g2 3 M (fun j => if j = n + 1 then .int .i64 (k : Int) else if j = n then .int .i64 (k : Int) else .int .i64 (atF J k j : Int))) := by subst hw9; exact Lib.hid (HA8.out.set (n + 1) _)
  have HP9 : Hid (w9.rowIs g3 4 M (fun j => .bool (hasP (J.take k) j))) := by subst hw9; exact Lib.hid (HP8.out.setOther (by exact HD.out.2.2.symm) _)
  have HB9 : Hid (Below B w4 w9) := by subst hw9; exact Lib.hid (HB8.out.setCell (by exact HE.out.g2B) _)
  clear hw9 k2 f2
  have k3 := HP9.out.cell (i := n) (by omega)
  have f3 := HP9.out.frozen n
  go_upto_region 52 with (fail)
  generalize hw10 : World.setCell w9 _ _ = w10
  have HC10 : Hid (w10.rowIs g1 3 M (fun j => if j = n + 1 then .int .i64 ((cntL (J.take k) (n + 1) : Int) + 1) else if j = n then .int .i64 ((cntL (J.take k) n : Int) + 1) else .int .i64 (cntL (J.take k) j : Int))) := by subst hw10; exact Lib.hid (HC9.out.setOther (by exact HD.out.2.1) _)
  have HA10 : Hid (w10.rowIs g2 3 M (fun j => if j = n + 1 then .int .i64 (k : Int) else if j = n then .int .i64 (k : Int) else .int .i64 (atF J k j : Int))) := by subst hw10; exact Lib.hid (HA9.out.setOther (by exact HD.out.2.2) _)
  have HP10 : Hid (w10.rowIs g3 4 M (fun j => if j = n then .bool true else .bool (hasP (J.take k) j))) := by subst hw10; exact Lib.hid (HP9.out.set n _)
  have HB10 : Hid (Below B w4 w10) := by subst hw10; exact Lib.hid (HB9.out.setCell (by exact HE.out.g3B) _)
  clear hw10 k3 f3
  go_wp2_with fail
  exact HK.out _ _ ⟨rfl, rfl, rfl, rfl, rfl, rfl, rfl, rfl⟩ ⟨int_is' (by rw [top_next HI.out, topI, if_pos h2, Nat.max_eq_left (by omega)]; omega), int_is' (by omega), psave_rows HI.out h2 HC10.out HA10.out HP10.out HB10.out⟩
set_option maxRecDepth 1000000 in
set_option maxHeartbeats 4000000 in
theorem lr_psaveDn {w4 wr : World} {s : ByteArray} {J : List Ins} {ig icap B M g1 g2 g3 k : Nat} {K : Act → World → Prop} (hE : LEnv w4 J B ig M g1 g2 g3) (hR : LRows w4 wr J B M g1 g2 g3 k)
    (hK : ∀ a' w', LFr s J ig icap M g1 g2 g3 a' → LRel w4 J B M g1 g2 g3 w' (k + 1) a' → K a' w')
    {n : Nat} (hi : J[k]? = some (.psave n)) (hn : n + 1 < 2 * J.length + 2) (h2 : 2 ≤ n) (hev : n % 2 = 0) (h4 : n < topF J k) (f : Nat → Value) :
    lawBody.wp Tryf.prog (Exit.then K (LQ w4 s J B ig icap M g1 g2 g3)) { tmps := #[.string s, f 1, f 2, f 3, f 4, f 5, f 6, f 7, .slice (some ⟨ig, 0, none⟩) J.length icap, .int .i64 (J.length : Int), f 10, f 11, f 12, f 13, f 14, f 15, f 16, f 17, f 18, .slice (some ⟨g1, 0, none⟩) M M, .slice (some ⟨g2, 0, none⟩) M M, .slice (some ⟨g3, 0, none⟩) M M, .int .i64 (topF J k : Int), .int .i64 (k : Int), f 24, f 25, f 26, f 27, f 28, f 29, f 30, f 31, f 32, f 33, f 34, f 35, f 36, f 37, f 38, f 39, f 40, f 41, f 42, f 43, f 44, f 45, f 46, f 47, f 48, f 49, f 50, f 51, f 52, f 53, f 54, f 55, f 56, f 57, f 58, f 59, f 60, f 61, f 62, f 63, f 64, f 65, f 66, f 67, f 68, f 69, f 70, f 71, f 72, f 73, f 74, f 75, f 76, f 77, f 78, f 79, f 80, f 81, f 82, f 83, f 84, f 85, f 86, f 87, f 88, f 89, f 90, f 91, f 92, f 93, f 94, f 95, f 96, f 97, f 98, f 99, f 100, f 101, f 102, f 103, f 104, f 105, f 106, f 107, f 108, f 109, f 110, f 111, f 112, f 113, f 114, f 115, f 116, f 117, f 118, f 119, f 120, f 121, f 122, f 123, f 124, f 125, f 126, f 127, f 128, f 129, f 130, f 131, f 132, f 133, f 134, f 135, f 136, f 137, f 138, f 139, f 140, f 141, f 142, f 143, f 144, f 145, f 146, f 147, f 148, f 149, f 150, f 151, f 152, f 153, f 154, f 155, f 156, f 157, f 158, f 159, f 160, f 161, f 162, f 163, f 164, f 165, f 166, f 167, f 168, f 169, f 170, f 171, f 172, f 173, f 174, f 175, f 176, f 177, f 178, f 179, f 180, f 181, f 182, f 183, f 184, f 185, f 186, f 187, f 188, f 189, f 190, f 191, f 192, f 193, f 194, f 195, f 196, f 197, f 198, f 199, f 200, f 201, f 202, f 203, f 204, f 205, f 206, f 207, f 208, f 209, f 210, f 211, f 212, f 213, f 214, f 215, f 216, f 217, f 218, f 219, f 220, f 221, f 222, f 223, f 224, f 225, f 226, f 227, f 228, f 229, f 230, f 231, f 232, f 233, f 234, f 235, f 236, f 237, f 238, f 239, f 240, f 241, f 242, f 243, f 244, f 245, f 246], defers := [] } wr := by
  obtain ⟨v, hv, c0, c1, c2, c3⟩ := hE.prog k _ hi
  have hkl : k < J.length := (List.getElem?_eq_some_iff.1 hi).1
  have hL := hE.small
  have hM1 : M ≤ 2 * J.length + 4 := Nat.le_of_eq hE.two
  have hM2 : 2 * J.length + 4 ≤ M := Nat.le_of_eq hE.two.symm
  have hbc : ∀ (j : Nat) (u : Value), w4.cell? ⟨ig, j, none⟩ = some u → wr.cell? ⟨ig, j, none⟩ = some u := fun j u h => (hR.below0.cell hE.igB).trans h
  have c0 := hbc _ _ c0
  have c1 := hbc _ _ c1
  have c2 := hbc _ _ c2
  have c3 := hbc _ _ c3
  clear hbc
  have hki : (k : Int) < (J.length : Int) := by omega
  have HE := Lib.hid hE
  have HR := Lib.hid hR
  have HK := Lib.hid hK
  have HI := Lib.hid hi
  clear hE hR hK hi
  simp only [insF] at c0 c2 c3
  obtain rfl : v = .nilIface := by
    rcases hv with h | ⟨⟨c, hc⟩, _⟩
    · exact h
    · cases hc
  conv => arg 2; whnf
  have tn1 : decide ((n : Int) < 0) = false := decide_eq_false (by omega)
  have tn2 : decide ((M : Int) ≤ (n : Int) + 1) = false := decide_eq_false (by omega)
  have hnM : (n : Int) < (M : Int) := by omega
  have hnM1 : (n : Int) + 1 < (M : Int) := by omega
  have tn3 : decide (2 ≤ (n : Int)) = true := decide_eq_true (by omega)
  have tn6 : (Int.tmod (n : Int) 2 == 0) = true := by rw [beq_iff_eq, Int.tmod_eq_emod_of_nonneg (by omega)]; omega
  have tn7 : Int.tmod (n : Int) 2 = 0 := by rw [Int.tmod_eq_emod_of_nonneg (by omega)]; omega
  have hq : cntL (J.take k) n ≤ 100000 := by have := cnt_le (J.take k) n; rw [List.length_take] at this; omega
  have hq1 : cntL (J.take k) (n + 1) ≤ 100000 := by have := cnt_le (J.take k) (n + 1); rw [List.length_take] at this; omega
  have htp : topF J k ≤ 100000 := by have := top_le HE.out.ok k (by omega); omega
  have tn4 : decide ((topF J k : Int) < (n : Int)) = false := decide_eq_false (by omega)
  have tn5 : decide ((topF J k : Int) < (n : Int) + 1) = false := decide_eq_false (by omega)
  go_wp2_with fail
  refine (fields_any _ _ _ _ _).mono ?_
  rintro e w5 ⟨rfl, hb5⟩
  have HR5 := Lib.hid (HR.out.below hb5 HE.out.Bs)
  clear hb5 c0 c1 c2 c3
  have HD := Lib.hid HE.out.dis
  go_upto_region 42 with (fail)
  have k1 := HR5.out.cnt.cell (i := n) (by omega)
  have f1 := HR5.out.cnt.frozen n
  go_upto_region 43 with (fail)
  generalize hw6 : World.setCell w5 _ _ = w6
  have HC6 : Hid (w6.rowIs g1 3 M (fun j => if j = n then .int .i64 ((cntL (J.take k) n : Int) + 1) else .int .i64 (cntL (J.take k) j : Int))) := by subst hw6; exact Lib.hid (HR5.out.cnt.set n _)
  have HA6 : Hid (w6.rowIs g2 3 M (fun j => .int .i64 (atF J k j : Int))) := by subst hw6; exact Lib.hid (HR5.out.ats.setOther (by exact HD.out.1.symm) _)
  have HP6 : Hid (w6.rowIs g3 4 M (fun j => .bool (hasP (J.take k) j))) := by subst hw6; exact Lib.hid (HR5.out.ps.setOther (by exact HD.out.2.1.symm) _)
  have HB6 : Hid (Below B w4 w6) := by subst hw6; exact Lib.hid (HR5.out.below0.setCell (by exact HE.out.g1B) _)
  clear hw6 k1 f1
  have k2 := HA6.out.cell (i := n) (by omega)
  have f2 := HA6.out.frozen n
  go_upto_region 44 with (fail)
  generalize hw7 : World.setCell w6 _ _ = w7
  have HC7 : Hid (w7.rowIs g1 3 M (fun j => if j = n then .int .i64 ((cntL (J.take k) n : Int) + 1) else .int .i64 (cntL (J.take k) j : Int))) := by subst hw7; exact Lib.hid (HC6.out.setOther (by exact HD.out.1) _)
  have HA7 : Hid (w7.rowIs g2 3 M (fun j => if j = n then .int .i64 (k : Int) else .int .i64 (atF J k j : Int))) := by subst hw7; exact Lib.hid (HA6.out.set n _)
  have HP7 : Hid (w7.rowIs g3 4 M (fun j => .bool (hasP (J.take k) j))) := by subst hw7; exact Lib.hid (HP6.out.setOther (by exact HD.out.2.2.symm) _)
  have HB7 : Hid (Below B w4 w7) := by subst hw7; exact Lib.hid (HB6.out.setCell (by exact HE.out.g2B) _)
  clear hw7 k2 f2
  go_upto_region 49 with (fail)
  have k1 := HC7.out.cell (i := n + 1) (by omega)
  rw [if_neg (by omega)] at k1
  have f1 := HC7.out.frozen (n + 1)
  go_upto_region 50 with (fail)
  generalize hw8 : World.setCell w7 _ _ = w8
  have HC8 : Hid (w8.rowIs g1 3 M (fun j => if j = n + 1 then .int .i64 ((cntL (J.take k) (n + 1) : Int) + 1) else if j = n then .int .i64 ((cntL (J.take k) n : Int) + 1) else .int .i64 (cntL (J.take k) j : Int))) := by subst hw8; exact Lib.hid (HC7.out.set (n + 1) _)
  have HA8 : Hid (w8.rowIs g2 3 M (fun j => if j = n then .int .i64 (k : Int) else .int .i64 (atF J k j : Int))) := by subst hw8; exact Lib.hid (HA7.out.setOther (by exact HD.out.1.symm) _)
  have HP8 : Hid (w8.rowIs g3 4 M (fun j => .bool (hasP (J.take k) j))) := by subst hw8; exact Lib.hid (HP7.out.setOther (by exact HD.out.2.1.symm) _)
  have HB8 : Hid (Below B w4 w8) := by subst hw8; exact Lib.hid (HB7.out.setCell (by exact HE.out.g1B) _)
  clear hw8 k1 f1
  have k2 := HA8.out.cell (i := n + 1) (by omega)
  rw [if_neg (by omega)] at k2
  have f2 := HA8.out.frozen (n + 1)
  go_upto_region 51 with (fail)
  generalize hw9 : World.setCell w8 _ _ = w9
  have HC9 : Hid (w9.rowIs g1 3 M (fun j => if j = n + 1 then .int .i64 ((cntL (J.take k) (n + 1) : Int) + 1) else if j = n then .int .i64 ((cntL (J.take k) n : Int) + 1) else .int .i64 (cntL (J.take k) j : Int))) := by subst hw9; exact Lib.hid (HC8.out.setOther (by exact HD.out.1) _)
  have HA9 : Hid (w9.rowIs g2 3 M (fun j => if j = n + 1 then .int .i64 (k : Int) else if j = n then .int .i64 (k : Int) else .int .i64 (atF J k j : Int))) := by subst hw9; exact Lib.hid (HA8.out.set (n + 1) _)
  have HP9 : Hid (w9.rowIs g3 4 M (fun j => .bool (hasP (J.take k) j))) := by subst hw9; exact Lib.hid (HP8.out.setOther (by exact HD.out.2.2.symm) _)
  have HB9 : Hid (Below B w4 w9) := by subst hw9; exact Lib.hid (HB8.out.setCell (by exact HE.out.g2B) _)
  clear hw9 k2 f2
  have k3 := HP9.out.cell (i := n) (by omega)
  have f3 := HP9.out.frozen n
  go_upto_region 52 with (fail)
  generalize hw10 : World.setCell w9 _ _ = w10
  have HC10 : Hid (w10.rowIs g1 3 M (fun j => if j = n + 1 then .int .i64 ((cntL (J.take k) (n + 1) : Int) + 1) else if j = n then .int .i64 ((cntL (J.take k) n : Int) + 1) else .int .i64 (cntL (J.take k) j : Int))) := by subst hw10; exact Lib.hid (HC9.out.setOther (by exact HD.out.2.1) _)
  have HA10 : Hid (w10.rowIs g2 3 M (fun j => if j = n + 1 then .int .i64 (k : Int) else if j = n then .int .i64 (k : Int) else .int .i64 (atF J k j : Int))) := by subst hw10; exact Lib.hid (HA9.out.setOther (by exact HD.out.2.2) _)
  have HP10 : Hid (w10.rowIs g3 4 M (fun j => if j = n then .bool true else .bool (hasP (J.take k) j))) := by subst hw10; exact Lib.hid (HP9.out.set n _)
  have HB10 : Hid (Below B w4 w10) := by subst hw10; exact Lib.hid (HB9.out.setCell (by exact HE.out.g3B) _)
  clear hw10 k3 f3
  go_wp2_with fail
  exact HK.out _ _ ⟨rfl, rfl, rfl, rfl, rfl, rfl, rfl, rfl⟩ ⟨int_is' (by rw [top_next HI.out, topI, if_pos h2, Nat.max_eq_right (by omega)]), int_is' (by omega), psave_rows HI.out h2 HC10.out HA10.out HP10.out HB10.out⟩


set_option maxRecDepth 1000000 in
theorem lr_end {w4 wr : World} {s : ByteArray} {J : List Ins} {ig icap B M g1 g2 g3 k : Nat} {K : Act → World → Prop} (hR : LRows w4 wr J B M g1 g2 g3 k) (hk : k = J.length) (f : Nat → Value) :
    lawBody.wp Tryf.prog (Exit.then K (LQ w4 s J B ig icap M g1 g2 g3)) { tmps := #[.string s, f 1, f 2, f 3, f 4, f 5, f 6, f 7, .slice (some ⟨ig, 0, none⟩) J.length icap, .int .i64 (J.length : Int), f 10, f 11, f 12, f 13, f 14, f 15, f 16, f 17, f 18, .slice (some ⟨g1, 0, none⟩) M M, .slice (some ⟨g2, 0, none⟩) M M, .slice (some ⟨g3, 0, none⟩) M M, .int .i64 (topF J k : Int), .int .i64 (k : Int), f 24, f 25, f 26, f 27, f 28, f 29, f 30, f 31, f 32, f 33, f 34, f 35, f 36, f 37, f 38, f 39, f 40, f 41, f 42, f 43, f 44, f 45, f 46, f 47, f 48, f 49, f 50, f 51, f 52, f 53, f 54, f 55, f 56, f 57, f 58, f 59, f 60, f 61, f 62, f 63, f 64, f 65, f 66, f 67, f 68, f 69, f 70, f 71, f 72, f 73, f 74, f 75, f 76, f 77, f 78, f 79, f 80, f 81, f 82, f 83, f 84, f 85, f 86, f 87, f 88, f 89, f 90, f 91, f 92, f 93, f 94, f 95, f 96, f 97, f 98, f 99, f 100, f 101, f 102, f 103, f 104, f 105, f 106, f 107, f 108, f 109, f 110, f 111, f 112, f 113, f 114, f 115, f 116, f 117, f 118, f 119, f 120, f 121, f 122, f 123, f 124, f 125, f 126, f 127, f 128, f 129, f 130, f 131, f 132, f 133, f 134, f 135, f 136, f 137, f 138, f 139, f 140, f 141, f 142, f 143, f 144, f 145, f 146, f 147, f 148, f 149, f 150, f 151, f 152, f 153, f 154, f 155, f 156, f 157, f 158, f 159, f 160, f 161, f 162, f 163, f 164, f 165, f 166, f 167, f 168, f 169, f 170, f 171, f 172, f 173, f 174, f 175, f 176, f 177, f 178, f 179, f 180, f 181, f 182, f 183, f 184, f 185, f 186, f 187, f 188, f 189, f 190, f 191, f 192, f 193, f 194, f 195, f 196, f 197, f 198, f 199, f 200, f 201, f 202, f 203, f 204, f 205, f 206, f 207, f 208, f 209, f 210, f 211, f 212, f 213, f 214, f 215, f 216, f 217, f 218, f 219, f 220, f 221, f 222, f 223, f 224, f 225, f 226, f 227, f 228, f 229, f 230, f 231, f 232, f 233, f 234, f 235, f 236, f 237, f 238, f 239, f 240, f 241, f 242, f 243, f 244, f 245, f 246], defers := [] } wr := by
  have HR := Lib.hid hR
  clear hR
  have HKE := Lib.hid hk
  have t1 : decide (k < J.length) = false := decide_eq_false (by omega)
  have t2 : ¬ k < J.length := by omega
  clear hk
  conv => arg 2; whnf
  go_wp2_with fail
  exact ⟨rfl, ⟨rfl, rfl, rfl, rfl, rfl, rfl, rfl, rfl⟩, int_is' (by rw [HKE.out]), int_is' (by rw [HKE.out]), by rw [← HKE.out]; exact HR.out⟩
theorem lact_is {a : Act} (h : a.defers = []) : a = { tmps := a.tmps, defers := [] } := by cases a; simp only [Act.mk.injEq, true_and]; exact h
set_option maxRecDepth 1000000 in
theorem law_round {w4 wr : World} {s : ByteArray} {J : List Ins} {ig icap B M g1 g2 g3 k : Nat} {K : Act → World → Prop} {a : Act} (hE : LEnv w4 J B ig M g1 g2 g3) (hf : LFr s J ig icap M g1 g2 g3 a) (hrel : LRel w4 J B M g1 g2 g3 wr k a) (hk : k ≤ J.length)
    (hK : ∀ a' w', k < J.length → LFr s J ig icap M g1 g2 g3 a' → LRel w4 J B M g1 g2 g3 w' (k + 1) a' → K a' w') : lawBody.wp Tryf.prog (Exit.then K (LQ w4 s J B ig icap M g1 g2 g3)) a wr := by
  obtain ⟨h22, h23, hR⟩ := hrel
  obtain ⟨f, hfr⟩ := lframe_lit a.tmps hf.sz hf.s0 hf.s8 hf.s9 hf.s19 hf.s20 hf.s21 h22 h23
  have ha := lact_is hf.df
  rw [ha, hfr]
  clear ha hfr hf h22 h23
  by_cases hlt : k < J.length
  · obtain ⟨i, hi⟩ : ∃ i, J[k]? = some i := ⟨J[k], List.getElem?_eq_getElem hlt⟩
    have hok := hE.ok i (List.mem_of_getElem? hi)
    have hK2 := fun a' w' => hK a' w' hlt
    cases i with
    | chr c => exact lr_chr hE hR hK2 hi f
    | mat => exact lr_mat hE hR hK2 hi f
    | tmat => exact lr_tmat hE hR hK2 hi f
    | brace x y => exact lr_brace hE hR hK2 hi f
    | num x => exact lr_num hE hR hK2 hi f
    | jmp a => exact lr_jmp hE hR hK2 hi hok f
    | split a b => exact lr_split hE hR hK2 hi hok.1 hok.2 f
    | save n =>
      simp only [Ins.okIn] at hok
      by_cases h2 : 2 ≤ n
      · by_cases h4 : topF J k < n
        · exact lr_saveUp hE hR hK2 hi hok h2 h4 f
        · exact lr_saveDn hE hR hK2 hi hok h2 h4 f
      · exact lr_saveLo hE hR hK2 hi hok (by omega) f
    | psave n =>
      obtain ⟨o1, o2, o3⟩ := hok
      by_cases h4 : topF J k < n
      · exact lr_psaveUp hE hR hK2 hi o1 o2 o3 h4 f
      · by_cases h5 : topF J k = n
        · exact lr_psaveEq hE hR hK2 hi o1 o2 o3 h5 f
        · exact lr_psaveDn hE hR hK2 hi o1 o2 o3 (by omega) f
  · exact lr_end hR (by omega) f
theorem law_loop {w4 wr : World} {s : ByteArray} {J : List Ins} {ig icap B M g1 g2 g3 k : Nat} {a : Act} (hE : LEnv w4 J B ig M g1 g2 g3) (hk : k ≤ J.length) (hf : LFr s J ig icap M g1 g2 g3 a) (hrel : LRel w4 J B M g1 g2 g3 wr k a) :
    (Code.loop lawBody).wp Tryf.prog (LQ w4 s J B ig icap M g1 g2 g3) a wr := by
  refine wp_loop_ghost (fun n a' w' => ∃ k', n = J.length - k' ∧ k' ≤ J.length ∧ LFr s J ig icap M g1 g2 g3 a' ∧ LRel w4 J B M g1 g2 g3 w' k' a') (J.length - k) ⟨k, rfl, hk, hf, hrel⟩ ?_
  rintro n a' w' ⟨k', rfl, hk', hf', hrel'⟩
  refine law_round hE hf' hrel' hk' ?_
  intro a2 w2 hlt hf2 hrel2
  exact ⟨_, by omega, k' + 1, rfl, by omega, hf2, hrel2⟩

end Go.Proofs.YtejankffdmahnaaFmt
