/-
  The contracts of the makers of a function context, of RegTop and SetRegTop, and of the exported helpers over them. Their condition: a register top of at most 200.
-/
import Derived.Test.YtkokfokcbhkcoaaFmtInv
import Derived.Carry
namespace Go.Proofs.YtkokfokcbhkcoaaFmt
open Go.RowKit
set_option linter.unusedVariables false
set_option linter.unusedSimpArgs false

def mkObj (z : Array Value) (n : Nat) (E : TypeId) : Obj := .cells (madeCells z (n * z.size)) E
@[go_sem] theorem make_35_128 (w : World) : (Instr.makeSlice 35 (.int .i64 0) (.int .i64 128)).run Tryf.prog w = .ok (.slice (some ⟨w.heap.size, 0, none⟩) 0 128) (w.alloc (mkObj #[.int .u32 0] 128 73)) := by kernel_rfl
@[go_sem] theorem make_35_1024 (w : World) : (Instr.makeSlice 35 (.int .i64 0) (.int .i64 1024)).run Tryf.prog w = .ok (.slice (some ⟨w.heap.size, 0, none⟩) 0 1024) (w.alloc (mkObj #[.int .u32 0] 1024 73)) := by kernel_rfl
@[go_sem] theorem make_48_32 (w : World) : (Instr.makeSlice 48 (.int .i64 0) (.int .i64 32)).run Tryf.prog w = .ok (.slice (some ⟨w.heap.size, 0, none⟩) 0 32) (w.alloc (mkObj #[.nilIface] 32 88)) := by kernel_rfl
@[go_sem] theorem make_49_16 (w : World) : (Instr.makeSlice 49 (.int .i64 0) (.int .i64 16)).run Tryf.prog w = .ok (.slice (some ⟨w.heap.size, 0, none⟩) 0 16) (w.alloc (mkObj #[.pointer none] 16 32)) := by kernel_rfl
@[go_sem] theorem make_27_128 (w : World) : (Instr.makeSlice 27 (.int .i64 0) (.int .i64 128)).run Tryf.prog w = .ok (.slice (some ⟨w.heap.size, 0, none⟩) 0 128) (w.alloc (mkObj #[.int .i64 0] 128 3)) := by kernel_rfl
@[go_sem] theorem make_27_1024 (w : World) : (Instr.makeSlice 27 (.int .i64 0) (.int .i64 1024)).run Tryf.prog w = .ok (.slice (some ⟨w.heap.size, 0, none⟩) 0 1024) (w.alloc (mkObj #[.int .i64 0] 1024 3)) := by kernel_rfl
@[go_sem] theorem make_50_16 (w : World) : (Instr.makeSlice 50 (.int .i64 0) (.int .i64 16)).run Tryf.prog w = .ok (.slice (some ⟨w.heap.size, 0, none⟩) 0 16) (w.alloc (mkObj #[.pointer none] 16 84)) := by kernel_rfl
@[go_sem] theorem make_51_128 (w : World) : (Instr.makeSlice 51 (.int .i64 0) (.int .i64 128)).run Tryf.prog w = .ok (.slice (some ⟨w.heap.size, 0, none⟩) 0 128) (w.alloc (mkObj #[.string ⟨#[]⟩, .int .i64 0] 128 120)) := by kernel_rfl
@[go_sem] theorem make_52_16 (w : World) : (Instr.makeSlice 52 (.int .i64 0) (.int .i64 16)).run Tryf.prog w = .ok (.slice (some ⟨w.heap.size, 0, none⟩) 0 16) (w.alloc (mkObj #[.string ⟨#[]⟩] 16 9)) := by kernel_rfl
@[go_sem] theorem make_52_32 (w : World) : (Instr.makeSlice 52 (.int .i64 0) (.int .i64 32)).run Tryf.prog w = .ok (.slice (some ⟨w.heap.size, 0, none⟩) 0 32) (w.alloc (mkObj #[.string ⟨#[]⟩] 32 9)) := by kernel_rfl

def SomePtr (w : World) (e : Ending) (w' : World) : Prop := ∃ a, e = .returned (.pointer (some a)) ∧ Below w.heap.size w w'
theorem below_new {B : Nat} {w w' : World} (h : Below B w w') (hB : B ≤ w.heap.size) (o : Obj) : Below B w (w'.alloc o) := h.alloc (Nat.le_trans hB h.size) o
theorem pool_any (k : Int) (w : World) : Calls Tryf.prog 13 #[.int .i64 k] w (SomePtr w) := by
  go_enter Tryf.func13, Tryf.ntmps13
  go_wp2
  go_ret
  exact ⟨_, rfl, below_new (below_new (Below.refl _ _) (Nat.le_refl _) _) (Nat.le_refl _) _⟩
theorem block_any (p : Option Addr) (w : World) : Calls Tryf.prog 14 #[.pointer p, .int .i64 0, .pointer none, .nilIface, .int .i64 0] w (SomePtr w) := by
  have hmm := @run_makeMap Tryf.prog
  go_enter Tryf.func14, Tryf.ntmps14
  go_wp2
  go_ret
  exact ⟨_, rfl, below_new (below_new (Below.refl _ _) (Nat.le_refl _) _) (Nat.le_refl _) _⟩

set_option maxRecDepth 100000 in
set_option maxHeartbeats 4000000 in
theorem proto_any (s : ByteArray) (w : World) : Calls Tryf.prog 12 #[.string s] w (SomePtr w) := by
  go_enter Tryf.func12, Tryf.ntmps12
  go_wp2
  refine wp_region_inv (by kernel_rfl) (by kernel_rfl) (fun L a W => ∃ u2 u3 u4 u5 u6 u7 u8 u9 u10 u11 u12 u13 : Value, a = { tmps := #[.string s, undef, u2, u3, u4, u5, u6, u7, u8, u9, u10, u11, u12, u13], defers := [] } ∧ (Below w.heap.size w W) ∧ (L 0 = true → u3 = .string s) ∧ (L 1 = true → ∃ x, u4 = .slice (some x) 0 128) ∧ (L 2 = true → ∃ x, u5 = .slice (some x) 0 32) ∧ (L 3 = true → ∃ x, u6 = .slice (some x) 0 16) ∧ (L 4 = true → ∃ x, u7 = .slice (some x) 0 128) ∧ (L 5 = true → ∃ x, u8 = .slice (some x) 0 16) ∧ (L 6 = true → ∃ x, u9 = .slice (some x) 0 128) ∧ (L 7 = true → ∃ x, u10 = .slice (some x) 0 16) ∧ (L 8 = true → ∃ x, u11 = .slice (some x) 0 32) ∧ (L 9 = true → ∃ y4 y5 y6 y7 y8 y9 y10 y11, u12 = .agg #[.string s, .int .i64 0, .int .i64 0, .int .u8 0, .int .u8 0, .int .u8 0, .int .u8 2, .slice (some y4) 0 128, .slice (some y5) 0 32, .slice (some y6) 0 16, .slice (some y7) 0 128, .slice (some y8) 0 16, .slice (some y9) 0 128, .slice (some y10) 0 16, .slice (some y11) 0 32]) ∧ (L 10 = true → ∃ x, u13 = .pointer (some x)) ∧ (L 11 = true → ∃ x, u2 = .pointer (some x))) ?_ ?_ ?_
  · exact ⟨_, _, _, _, _, _, _, _, _, _, _, _, rfl, below_drewN (Below.refl _ _) 1, (fun h => by cases h), (fun h => by cases h), (fun h => by cases h), (fun h => by cases h), (fun h => by cases h), (fun h => by cases h), (fun h => by cases h), (fun h => by cases h), (fun h => by cases h), (fun h => by cases h), (fun h => by cases h), (fun h => by cases h)⟩
  · rintro L a W i o ho hL hafter ⟨u2, u3, u4, u5, u6, u7, u8, u9, u10, u11, u12, u13, rfl, hbel, h0, h1, h2, h3, h4, h5, h6, h7, h8, h9, h10, h11⟩
    have hi := (Array.getElem?_eq_some_iff.1 ho).1
    simp only [List.size_toArray, List.length_cons, List.length_nil] at hi
    rcases (show i = 0 ∨ i = 1 ∨ i = 2 ∨ i = 3 ∨ i = 4 ∨ i = 5 ∨ i = 6 ∨ i = 7 ∨ i = 8 ∨ i = 9 ∨ i = 10 ∨ i = 11 by omega) with rfl | rfl | rfl | rfl | rfl | rfl | rfl | rfl | rfl | rfl | rfl | rfl
    · injection ho with ho
      subst ho
      clear hafter hL
      refine wpOp_step (by rfl) (fun K hK => ?_)
      go_simp
      refine hK _ _ ?_
      exact ⟨_, _, _, _, _, _, _, _, _, _, _, _, rfl, hbel, fun _ => rfl, fun h => h1 (by simpa using h), fun h => h2 (by simpa using h), fun h => h3 (by simpa using h), fun h => h4 (by simpa using h), fun h => h5 (by simpa using h), fun h => h6 (by simpa using h), fun h => h7 (by simpa using h), fun h => h8 (by simpa using h), fun h => h9 (by simpa using h), fun h => h10 (by simpa using h), fun h => h11 (by simpa using h)⟩
    · injection ho with ho
      subst ho
      clear hafter hL
      refine wpOp_step (by rfl) (fun K hK => ?_)
      go_simp
      refine hK _ _ ?_
      exact ⟨_, _, _, _, _, _, _, _, _, _, _, _, rfl, below_new hbel (Nat.le_refl _) _, fun h => h0 (by simpa using h), fun _ => ⟨_, rfl⟩, fun h => h2 (by simpa using h), fun h => h3 (by simpa using h), fun h => h4 (by simpa using h), fun h => h5 (by simpa using h), fun h => h6 (by simpa using h), fun h => h7 (by simpa using h), fun h => h8 (by simpa using h), fun h => h9 (by simpa using h), fun h => h10 (by simpa using h), fun h => h11 (by simpa using h)⟩
    · injection ho with ho
      subst ho
      clear hafter hL
      refine wpOp_step (by rfl) (fun K hK => ?_)
      go_simp
      refine hK _ _ ?_
      exact ⟨_, _, _, _, _, _, _, _, _, _, _, _, rfl, below_new hbel (Nat.le_refl _) _, fun h => h0 (by simpa using h), fun h => h1 (by simpa using h), fun _ => ⟨_, rfl⟩, fun h => h3 (by simpa using h), fun h => h4 (by simpa using h), fun h => h5 (by simpa using h), fun h => h6 (by simpa using h), fun h => h7 (by simpa using h), fun h => h8 (by simpa using h), fun h => h9 (by simpa using h), fun h => h10 (by simpa using h), fun h => h11 (by simpa using h)⟩
    · injection ho with ho
      subst ho
      clear hafter hL
      refine wpOp_step (by rfl) (fun K hK => ?_)
      go_simp
      refine hK _ _ ?_
      exact ⟨_, _, _, _, _, _, _, _, _, _, _, _, rfl, below_new hbel (Nat.le_refl _) _, fun h => h0 (by simpa using h), fun h => h1 (by simpa using h), fun h => h2 (by simpa using h), fun _ => ⟨_, rfl⟩, fun h => h4 (by simpa using h), fun h => h5 (by simpa using h), fun h => h6 (by simpa using h), fun h => h7 (by simpa using h), fun h => h8 (by simpa using h), fun h => h9 (by simpa using h), fun h => h10 (by simpa using h), fun h => h11 (by simpa using h)⟩
    · injection ho with ho
      subst ho
      clear hafter hL
      refine wpOp_step (by rfl) (fun K hK => ?_)
      go_simp
      refine hK _ _ ?_
      exact ⟨_, _, _, _, _, _, _, _, _, _, _, _, rfl, below_new hbel (Nat.le_refl _) _, fun h => h0 (by simpa using h), fun h => h1 (by simpa using h), fun h => h2 (by simpa using h), fun h => h3 (by simpa using h), fun _ => ⟨_, rfl⟩, fun h => h5 (by simpa using h), fun h => h6 (by simpa using h), fun h => h7 (by simpa using h), fun h => h8 (by simpa using h), fun h => h9 (by simpa using h), fun h => h10 (by simpa using h), fun h => h11 (by simpa using h)⟩
    · injection ho with ho
      subst ho
      clear hafter hL
      refine wpOp_step (by rfl) (fun K hK => ?_)
      go_simp
      refine hK _ _ ?_
      exact ⟨_, _, _, _, _, _, _, _, _, _, _, _, rfl, below_new hbel (Nat.le_refl _) _, fun h => h0 (by simpa using h), fun h => h1 (by simpa using h), fun h => h2 (by simpa using h), fun h => h3 (by simpa using h), fun h => h4 (by simpa using h), fun _ => ⟨_, rfl⟩, fun h => h6 (by simpa using h), fun h => h7 (by simpa using h), fun h => h8 (by simpa using h), fun h => h9 (by simpa using h), fun h => h10 (by simpa using h), fun h => h11 (by simpa using h)⟩
    · injection ho with ho
      subst ho
      clear hafter hL
      refine wpOp_step (by rfl) (fun K hK => ?_)
      go_simp
      refine hK _ _ ?_
      exact ⟨_, _, _, _, _, _, _, _, _, _, _, _, rfl, below_new hbel (Nat.le_refl _) _, fun h => h0 (by simpa using h), fun h => h1 (by simpa using h), fun h => h2 (by simpa using h), fun h => h3 (by simpa using h), fun h => h4 (by simpa using h), fun h => h5 (by simpa using h), fun _ => ⟨_, rfl⟩, fun h => h7 (by simpa using h), fun h => h8 (by simpa using h), fun h => h9 (by simpa using h), fun h => h10 (by simpa using h), fun h => h11 (by simpa using h)⟩
    · injection ho with ho
      subst ho
      clear hafter hL
      refine wpOp_step (by rfl) (fun K hK => ?_)
      go_simp
      refine hK _ _ ?_
      exact ⟨_, _, _, _, _, _, _, _, _, _, _, _, rfl, below_new hbel (Nat.le_refl _) _, fun h => h0 (by simpa using h), fun h => h1 (by simpa using h), fun h => h2 (by simpa using h), fun h => h3 (by simpa using h), fun h => h4 (by simpa using h), fun h => h5 (by simpa using h), fun h => h6 (by simpa using h), fun _ => ⟨_, rfl⟩, fun h => h8 (by simpa using h), fun h => h9 (by simpa using h), fun h => h10 (by simpa using h), fun h => h11 (by simpa using h)⟩
    · injection ho with ho
      subst ho
      clear hafter hL
      refine wpOp_step (by rfl) (fun K hK => ?_)
      go_simp
      refine hK _ _ ?_
      exact ⟨_, _, _, _, _, _, _, _, _, _, _, _, rfl, below_new hbel (Nat.le_refl _) _, fun h => h0 (by simpa using h), fun h => h1 (by simpa using h), fun h => h2 (by simpa using h), fun h => h3 (by simpa using h), fun h => h4 (by simpa using h), fun h => h5 (by simpa using h), fun h => h6 (by simpa using h), fun h => h7 (by simpa using h), fun _ => ⟨_, rfl⟩, fun h => h9 (by simpa using h), fun h => h10 (by simpa using h), fun h => h11 (by simpa using h)⟩
    · injection ho with ho
      subst ho
      have k0 := h0 (hafter ⟨0, .data⟩ (by simp) rfl)
      obtain rfl := k0
      have k1 := h1 (hafter ⟨1, .data⟩ (by simp) rfl)
      obtain ⟨x4, rfl⟩ := k1
      have k2 := h2 (hafter ⟨2, .data⟩ (by simp) rfl)
      obtain ⟨x5, rfl⟩ := k2
      have k3 := h3 (hafter ⟨3, .data⟩ (by simp) rfl)
      obtain ⟨x6, rfl⟩ := k3
      have k4 := h4 (hafter ⟨4, .data⟩ (by simp) rfl)
      obtain ⟨x7, rfl⟩ := k4
      have k5 := h5 (hafter ⟨5, .data⟩ (by simp) rfl)
      obtain ⟨x8, rfl⟩ := k5
      have k6 := h6 (hafter ⟨6, .data⟩ (by simp) rfl)
      obtain ⟨x9, rfl⟩ := k6
      have k7 := h7 (hafter ⟨7, .data⟩ (by simp) rfl)
      obtain ⟨x10, rfl⟩ := k7
      have k8 := h8 (hafter ⟨8, .data⟩ (by simp) rfl)
      obtain ⟨x11, rfl⟩ := k8
      clear hafter hL
      refine wpOp_step (by rfl) (fun K hK => ?_)
      go_simp
      refine hK _ _ ?_
      exact ⟨_, _, _, _, _, _, _, _, _, _, _, _, rfl, hbel, fun _ => rfl, fun _ => ⟨_, rfl⟩, fun _ => ⟨_, rfl⟩, fun _ => ⟨_, rfl⟩, fun _ => ⟨_, rfl⟩, fun _ => ⟨_, rfl⟩, fun _ => ⟨_, rfl⟩, fun _ => ⟨_, rfl⟩, fun _ => ⟨_, rfl⟩, fun _ => ⟨_, _, _, _, _, _, _, _, rfl⟩, fun h => h10 (by simpa using h), fun h => h11 (by simpa using h)⟩
    · injection ho with ho
      subst ho
      have k9 := h9 (hafter ⟨9, .data⟩ (by simp) rfl)
      obtain ⟨y4, y5, y6, y7, y8, y9, y10, y11, rfl⟩ := k9
      clear hafter hL
      refine wpOp_step (by rfl) (fun K hK => ?_)
      go_simp
      refine hK _ _ ?_
      exact ⟨_, _, _, _, _, _, _, _, _, _, _, _, rfl, below_new hbel (Nat.le_refl _) _, fun h => h0 (by simpa using h), fun h => h1 (by simpa using h), fun h => h2 (by simpa using h), fun h => h3 (by simpa using h), fun h => h4 (by simpa using h), fun h => h5 (by simpa using h), fun h => h6 (by simpa using h), fun h => h7 (by simpa using h), fun h => h8 (by simpa using h), fun _ => ⟨_, _, _, _, _, _, _, _, rfl⟩, fun _ => ⟨_, rfl⟩, fun h => h11 (by simpa using h)⟩
    · injection ho with ho
      subst ho
      have k10 := h10 (hafter ⟨10, .data⟩ (by simp) rfl)
      obtain ⟨x13, rfl⟩ := k10
      clear hafter hL
      refine wpOp_step (by rfl) (fun K hK => ?_)
      go_simp
      refine hK _ _ ?_
      exact ⟨_, _, _, _, _, _, _, _, _, _, _, _, rfl, hbel, fun h => h0 (by simpa using h), fun h => h1 (by simpa using h), fun h => h2 (by simpa using h), fun h => h3 (by simpa using h), fun h => h4 (by simpa using h), fun h => h5 (by simpa using h), fun h => h6 (by simpa using h), fun h => h7 (by simpa using h), fun h => h8 (by simpa using h), fun h => h9 (by simpa using h), fun _ => ⟨_, rfl⟩, fun _ => ⟨_, rfl⟩⟩
  · rintro L a W hall ⟨u2, u3, u4, u5, u6, u7, u8, u9, u10, u11, u12, u13, rfl, hbel, h0, h1, h2, h3, h4, h5, h6, h7, h8, h9, h10, h11⟩
    obtain ⟨x2, rfl⟩ := h11 (hall 11 (by decide))
    have HB := Lib.hid hbel
    clear hbel h0 h1 h2 h3 h4 h5 h6 h7 h8 h9 h10 h11 hall
    go_wp2
    go_ret
    exact ⟨_, rfl, HB.out⟩

/-- A function context at block b with the register top r. -/
def CtxAt (w : World) (b : Nat) (r : Int) : Prop := ∃ c0 c1 c2 c3 c4 c5 c7 c8 c9 c10 : Value, w.heap[b]? = some (.cells #[c0, c1, c2, c3, c4, c5, .int .i64 r, c7, c8, c9, c10] 46 (0, 0))
def CtxPost (w : World) (e : Ending) (w' : World) : Prop := ∃ b, e = .returned (.pointer (some ⟨b, 0, none⟩)) ∧ w.heap.size ≤ b ∧ Below w.heap.size w w' ∧ CtxAt w' b 0
def FcAt (w : World) (b : Nat) : Prop := ∃ p0 p1 p3 p4 m1 m2, w.heap[b]? = some (.cells #[.pointer (some p0), .pointer (some p1), .pointer none, .pointer (some p3), .pointer (some p4), .slice none 0 0, .int .i64 0, .int .i64 1, .map m1, .int .i64 0, .map m2] 46 (0, 0))
theorem FcAt.alloc {w : World} {b : Nat} (h : FcAt w b) (o : Obj) : FcAt (w.alloc o) b := let ⟨p0, p1, p3, p4, m1, m2, hh⟩ := h; ⟨p0, p1, p3, p4, m1, m2, blk_alloc hh o⟩
theorem FcAt.below {w w' : World} {b : Nat} (h : FcAt w b) (hb : Below w.heap.size w w') : FcAt w' b := let ⟨p0, p1, p3, p4, m1, m2, hh⟩ := h; ⟨p0, p1, p3, p4, m1, m2, blk_below hh hb (blk_lt hh)⟩
set_option maxRecDepth 100000 in
set_option maxHeartbeats 4000000 in
theorem ctx_any (s : ByteArray) (w : World) : Calls Tryf.prog 9 #[.string s, .pointer none] w (CtxPost w) := by
  have hmm := @run_makeMap Tryf.prog
  go_enter Tryf.func9, Tryf.ntmps9
  go_wp2
  refine wp_region_inv (by kernel_rfl) (by kernel_rfl) (fun L a W => ∃ u5 u6 u7 u8 u9 u10 u11 u12 u13 u14 u15 u16 u17 u18 u19 : Value, a = { tmps := #[.string s, .pointer none, undef, undef, .pointer none, u5, u6, u7, u8, u9, u10, u11, u12, u13, u14, u15, u16, u17, u18, u19, undef, undef, undef, undef, undef, undef, undef, undef, undef], defers := [] } ∧ (Below w.heap.size w W) ∧ (L 0 = true → u6 = .string s) ∧ (L 1 = true → ∃ x, u7 = .pointer (some x)) ∧ (L 2 = true → ∃ x, u8 = .slice (some x) 0 1024) ∧ (L 3 = true → ∃ x, u9 = .slice (some x) 0 1024) ∧ (L 4 = true → ∃ y8 y9, u10 = .agg #[.slice (some y8) 0 1024, .slice (some y9) 0 1024, .int .i64 0]) ∧ (L 5 = true → ∃ x, u11 = .pointer (some x)) ∧ (L 6 = true → u12 = .pointer none) ∧ (L 7 = true → ∃ x, u13 = .pointer (some x)) ∧ (L 8 = true → ∃ x, u14 = .pointer (some x)) ∧ (L 9 = true → ∃ x, u15 = .pointer (some x)) ∧ (L 10 = true → ∃ m, u16 = .map m) ∧ (L 11 = true → ∃ m, u17 = .map m) ∧ (L 12 = true → ∃ y7 y11 y13 y15 m16 m17, u18 = .agg #[.pointer (some y7), .pointer (some y11), .pointer none, .pointer (some y13), .pointer (some y15), .slice none 0 0, .int .i64 0, .int .i64 1, .map m16, .int .i64 0, .map m17]) ∧ (L 13 = true → ∃ b, u19 = .pointer (some ⟨b, 0, none⟩) ∧ w.heap.size ≤ b ∧ FcAt W b) ∧ (L 14 = true → ∃ b, u5 = .pointer (some ⟨b, 0, none⟩) ∧ w.heap.size ≤ b ∧ FcAt W b)) ?_ ?_ ?_
  · exact ⟨_, _, _, _, _, _, _, _, _, _, _, _, _, _, _, rfl, below_drewN (Below.refl _ _) 1, (fun h => by cases h), (fun h => by cases h), (fun h => by cases h), (fun h => by cases h), (fun h => by cases h), (fun h => by cases h), (fun h => by cases h), (fun h => by cases h), (fun h => by cases h), (fun h => by cases h), (fun h => by cases h), (fun h => by cases h), (fun h => by cases h), (fun h => by cases h), (fun h => by cases h)⟩
  · rintro L a W i o ho hL hafter ⟨u5, u6, u7, u8, u9, u10, u11, u12, u13, u14, u15, u16, u17, u18, u19, rfl, hbel, h0, h1, h2, h3, h4, h5, h6, h7, h8, h9, h10, h11, h12, h13, h14⟩
    have hi := (Array.getElem?_eq_some_iff.1 ho).1
    simp only [List.size_toArray, List.length_cons, List.length_nil] at hi
    rcases (show i = 0 ∨ i = 1 ∨ i = 2 ∨ i = 3 ∨ i = 4 ∨ i = 5 ∨ i = 6 ∨ i = 7 ∨ i = 8 ∨ i = 9 ∨ i = 10 ∨ i = 11 ∨ i = 12 ∨ i = 13 ∨ i = 14 by omega) with rfl | rfl | rfl | rfl | rfl | rfl | rfl | rfl | rfl | rfl | rfl | rfl | rfl | rfl | rfl
    · injection ho with ho
      subst ho
      clear hafter hL
      refine wpOp_step (by rfl) (fun K hK => ?_)
      go_simp
      refine hK _ _ ?_
      exact ⟨_, _, _, _, _, _, _, _, _, _, _, _, _, _, _, rfl, hbel, fun _ => rfl, fun h => h1 (by simpa using h), fun h => h2 (by simpa using h), fun h => h3 (by simpa using h), fun h => h4 (by simpa using h), fun h => h5 (by simpa using h), fun h => h6 (by simpa using h), fun h => h7 (by simpa using h), fun h => h8 (by simpa using h), fun h => h9 (by simpa using h), fun h => h10 (by simpa using h), fun h => h11 (by simpa using h), fun h => h12 (by simpa using h), fun h => h13 (by simpa using h), fun h => h14 (by simpa using h)⟩
    · injection ho with ho
      subst ho
      have k0 := h0 (hafter ⟨0, .data⟩ (by simp) rfl)
      obtain rfl := k0
      clear hafter hL
      refine wpOp_step (by rfl) (fun K hK => ?_)
      go_simp
      refine (proto_any s _).mono ?_
      rintro e w2 ⟨ap, rfl, hb2⟩
      refine hK _ _ ?_
      exact ⟨_, _, _, _, _, _, _, _, _, _, _, _, _, _, _, rfl, hbel.trans (hb2.mono hbel.size), fun _ => rfl, fun _ => ⟨_, rfl⟩, fun h => h2 (by simpa using h), fun h => h3 (by simpa using h), fun h => h4 (by simpa using h), fun h => h5 (by simpa using h), fun h => h6 (by simpa using h), fun h => h7 (by simpa using h), fun h => h8 (by simpa using h), fun h => h9 (by simpa using h), fun h => h10 (by simpa using h), fun h => h11 (by simpa using h), fun h => h12 (by simpa using h), (fun h => let ⟨b, e1, e2, e3⟩ := (h13 (by simpa using h)); ⟨b, e1, e2, e3.below hb2⟩), (fun h => let ⟨b, e1, e2, e3⟩ := (h14 (by simpa using h)); ⟨b, e1, e2, e3.below hb2⟩)⟩
    · injection ho with ho
      subst ho
      clear hafter hL
      refine wpOp_step (by rfl) (fun K hK => ?_)
      go_simp
      refine hK _ _ ?_
      exact ⟨_, _, _, _, _, _, _, _, _, _, _, _, _, _, _, rfl, below_new hbel (Nat.le_refl _) _, fun h => h0 (by simpa using h), fun h => h1 (by simpa using h), fun _ => ⟨_, rfl⟩, fun h => h3 (by simpa using h), fun h => h4 (by simpa using h), fun h => h5 (by simpa using h), fun h => h6 (by simpa using h), fun h => h7 (by simpa using h), fun h => h8 (by simpa using h), fun h => h9 (by simpa using h), fun h => h10 (by simpa using h), fun h => h11 (by simpa using h), fun h => h12 (by simpa using h), (fun h => let ⟨b, e1, e2, e3⟩ := (h13 (by simpa using h)); ⟨b, e1, e2, e3.alloc _⟩), (fun h => let ⟨b, e1, e2, e3⟩ := (h14 (by simpa using h)); ⟨b, e1, e2, e3.alloc _⟩)⟩
    · injection ho with ho
      subst ho
      clear hafter hL
      refine wpOp_step (by rfl) (fun K hK => ?_)
      go_simp
      refine hK _ _ ?_
      exact ⟨_, _, _, _, _, _, _, _, _, _, _, _, _, _, _, rfl, below_new hbel (Nat.le_refl _) _, fun h => h0 (by simpa using h), fun h => h1 (by simpa using h), fun h => h2 (by simpa using h), fun _ => ⟨_, rfl⟩, fun h => h4 (by simpa using h), fun h => h5 (by simpa using h), fun h => h6 (by simpa using h), fun h => h7 (by simpa using h), fun h => h8 (by simpa using h), fun h => h9 (by simpa using h), fun h => h10 (by simpa using h), fun h => h11 (by simpa using h), fun h => h12 (by simpa using h), (fun h => let ⟨b, e1, e2, e3⟩ := (h13 (by simpa using h)); ⟨b, e1, e2, e3.alloc _⟩), (fun h => let ⟨b, e1, e2, e3⟩ := (h14 (by simpa using h)); ⟨b, e1, e2, e3.alloc _⟩)⟩
    · injection ho with ho
      subst ho
      have k2 := h2 (hafter ⟨2, .data⟩ (by simp) rfl)
      obtain ⟨x8, rfl⟩ := k2
      have k3 := h3 (hafter ⟨3, .data⟩ (by simp) rfl)
      obtain ⟨x9, rfl⟩ := k3
      clear hafter hL
      refine wpOp_step (by rfl) (fun K hK => ?_)
      go_simp
      refine hK _ _ ?_
      exact ⟨_, _, _, _, _, _, _, _, _, _, _, _, _, _, _, rfl, hbel, fun h => h0 (by simpa using h), fun h => h1 (by simpa using h), fun _ => ⟨_, rfl⟩, fun _ => ⟨_, rfl⟩, fun _ => ⟨_, _, rfl⟩, fun h => h5 (by simpa using h), fun h => h6 (by simpa using h), fun h => h7 (by simpa using h), fun h => h8 (by simpa using h), fun h => h9 (by simpa using h), fun h => h10 (by simpa using h), fun h => h11 (by simpa using h), fun h => h12 (by simpa using h), fun h => h13 (by simpa using h), fun h => h14 (by simpa using h)⟩
    · injection ho with ho
      subst ho
      have k4 := h4 (hafter ⟨4, .data⟩ (by simp) rfl)
      obtain ⟨y8, y9, rfl⟩ := k4
      clear hafter hL
      refine wpOp_step (by rfl) (fun K hK => ?_)
      go_simp
      refine hK _ _ ?_
      exact ⟨_, _, _, _, _, _, _, _, _, _, _, _, _, _, _, rfl, below_new hbel (Nat.le_refl _) _, fun h => h0 (by simpa using h), fun h => h1 (by simpa using h), fun h => h2 (by simpa using h), fun h => h3 (by simpa using h), fun _ => ⟨_, _, rfl⟩, fun _ => ⟨_, rfl⟩, fun h => h6 (by simpa using h), fun h => h7 (by simpa using h), fun h => h8 (by simpa using h), fun h => h9 (by simpa using h), fun h => h10 (by simpa using h), fun h => h11 (by simpa using h), fun h => h12 (by simpa using h), (fun h => let ⟨b, e1, e2, e3⟩ := (h13 (by simpa using h)); ⟨b, e1, e2, e3.alloc _⟩), (fun h => let ⟨b, e1, e2, e3⟩ := (h14 (by simpa using h)); ⟨b, e1, e2, e3.alloc _⟩)⟩
    · injection ho with ho
      subst ho
      clear hafter hL
      refine wpOp_step (by rfl) (fun K hK => ?_)
      go_simp
      refine hK _ _ ?_
      exact ⟨_, _, _, _, _, _, _, _, _, _, _, _, _, _, _, rfl, hbel, fun h => h0 (by simpa using h), fun h => h1 (by simpa using h), fun h => h2 (by simpa using h), fun h => h3 (by simpa using h), fun h => h4 (by simpa using h), fun h => h5 (by simpa using h), fun _ => rfl, fun h => h7 (by simpa using h), fun h => h8 (by simpa using h), fun h => h9 (by simpa using h), fun h => h10 (by simpa using h), fun h => h11 (by simpa using h), fun h => h12 (by simpa using h), fun h => h13 (by simpa using h), fun h => h14 (by simpa using h)⟩
    · injection ho with ho
      subst ho
      clear hafter hL
      refine wpOp_step (by rfl) (fun K hK => ?_)
      go_simp
      refine (pool_any _ _).mono ?_
      rintro e w2 ⟨ap, rfl, hb2⟩
      refine hK _ _ ?_
      exact ⟨_, _, _, _, _, _, _, _, _, _, _, _, _, _, _, rfl, hbel.trans (hb2.mono hbel.size), fun h => h0 (by simpa using h), fun h => h1 (by simpa using h), fun h => h2 (by simpa using h), fun h => h3 (by simpa using h), fun h => h4 (by simpa using h), fun h => h5 (by simpa using h), fun h => h6 (by simpa using h), fun _ => ⟨_, rfl⟩, fun h => h8 (by simpa using h), fun h => h9 (by simpa using h), fun h => h10 (by simpa using h), fun h => h11 (by simpa using h), fun h => h12 (by simpa using h), (fun h => let ⟨b, e1, e2, e3⟩ := (h13 (by simpa using h)); ⟨b, e1, e2, e3.below hb2⟩), (fun h => let ⟨b, e1, e2, e3⟩ := (h14 (by simpa using h)); ⟨b, e1, e2, e3.below hb2⟩)⟩
    · injection ho with ho
      subst ho
      clear hafter hL
      refine wpOp_step (by rfl) (fun K hK => ?_)
      go_simp
      refine (pool_any _ _).mono ?_
      rintro e w2 ⟨ap, rfl, hb2⟩
      refine hK _ _ ?_
      exact ⟨_, _, _, _, _, _, _, _, _, _, _, _, _, _, _, rfl, hbel.trans (hb2.mono hbel.size), fun h => h0 (by simpa using h), fun h => h1 (by simpa using h), fun h => h2 (by simpa using h), fun h => h3 (by simpa using h), fun h => h4 (by simpa using h), fun h => h5 (by simpa using h), fun h => h6 (by simpa using h), fun h => h7 (by simpa using h), fun _ => ⟨_, rfl⟩, fun h => h9 (by simpa using h), fun h => h10 (by simpa using h), fun h => h11 (by simpa using h), fun h => h12 (by simpa using h), (fun h => let ⟨b, e1, e2, e3⟩ := (h13 (by simpa using h)); ⟨b, e1, e2, e3.below hb2⟩), (fun h => let ⟨b, e1, e2, e3⟩ := (h14 (by simpa using h)); ⟨b, e1, e2, e3.below hb2⟩)⟩
    · injection ho with ho
      subst ho
      have k8 := h8 (hafter ⟨8, .data⟩ (by simp) rfl)
      obtain ⟨x14, rfl⟩ := k8
      clear hafter hL
      refine wpOp_step (by rfl) (fun K hK => ?_)
      go_simp
      refine (block_any _ _).mono ?_
      rintro e w2 ⟨ap, rfl, hb2⟩
      refine hK _ _ ?_
      exact ⟨_, _, _, _, _, _, _, _, _, _, _, _, _, _, _, rfl, hbel.trans (hb2.mono hbel.size), fun h => h0 (by simpa using h), fun h => h1 (by simpa using h), fun h => h2 (by simpa using h), fun h => h3 (by simpa using h), fun h => h4 (by simpa using h), fun h => h5 (by simpa using h), fun h => h6 (by simpa using h), fun h => h7 (by simpa using h), fun _ => ⟨_, rfl⟩, fun _ => ⟨_, rfl⟩, fun h => h10 (by simpa using h), fun h => h11 (by simpa using h), fun h => h12 (by simpa using h), (fun h => let ⟨b, e1, e2, e3⟩ := (h13 (by simpa using h)); ⟨b, e1, e2, e3.below hb2⟩), (fun h => let ⟨b, e1, e2, e3⟩ := (h14 (by simpa using h)); ⟨b, e1, e2, e3.below hb2⟩)⟩
    · injection ho with ho
      subst ho
      clear hafter hL
      refine wpOp_step (by rfl) (fun K hK => ?_)
      go_simp
      refine hK _ _ ?_
      exact ⟨_, _, _, _, _, _, _, _, _, _, _, _, _, _, _, rfl, below_new hbel (Nat.le_refl _) _, fun h => h0 (by simpa using h), fun h => h1 (by simpa using h), fun h => h2 (by simpa using h), fun h => h3 (by simpa using h), fun h => h4 (by simpa using h), fun h => h5 (by simpa using h), fun h => h6 (by simpa using h), fun h => h7 (by simpa using h), fun h => h8 (by simpa using h), fun h => h9 (by simpa using h), fun _ => ⟨_, rfl⟩, fun h => h11 (by simpa using h), fun h => h12 (by simpa using h), (fun h => let ⟨b, e1, e2, e3⟩ := (h13 (by simpa using h)); ⟨b, e1, e2, e3.alloc _⟩), (fun h => let ⟨b, e1, e2, e3⟩ := (h14 (by simpa using h)); ⟨b, e1, e2, e3.alloc _⟩)⟩
    · injection ho with ho
      subst ho
      clear hafter hL
      refine wpOp_step (by rfl) (fun K hK => ?_)
      go_simp
      refine hK _ _ ?_
      exact ⟨_, _, _, _, _, _, _, _, _, _, _, _, _, _, _, rfl, below_new hbel (Nat.le_refl _) _, fun h => h0 (by simpa using h), fun h => h1 (by simpa using h), fun h => h2 (by simpa using h), fun h => h3 (by simpa using h), fun h => h4 (by simpa using h), fun h => h5 (by simpa using h), fun h => h6 (by simpa using h), fun h => h7 (by simpa using h), fun h => h8 (by simpa using h), fun h => h9 (by simpa using h), fun h => h10 (by simpa using h), fun _ => ⟨_, rfl⟩, fun h => h12 (by simpa using h), (fun h => let ⟨b, e1, e2, e3⟩ := (h13 (by simpa using h)); ⟨b, e1, e2, e3.alloc _⟩), (fun h => let ⟨b, e1, e2, e3⟩ := (h14 (by simpa using h)); ⟨b, e1, e2, e3.alloc _⟩)⟩
    · injection ho with ho
      subst ho
      have k1 := h1 (hafter ⟨1, .data⟩ (by simp) rfl)
      obtain ⟨x7, rfl⟩ := k1
      have k5 := h5 (hafter ⟨5, .data⟩ (by simp) rfl)
      obtain ⟨x11, rfl⟩ := k5
      have k6 := h6 (hafter ⟨6, .data⟩ (by simp) rfl)
      obtain rfl := k6
      have k7 := h7 (hafter ⟨7, .data⟩ (by simp) rfl)
      obtain ⟨x13, rfl⟩ := k7
      have k9 := h9 (hafter ⟨9, .data⟩ (by simp) rfl)
      obtain ⟨x15, rfl⟩ := k9
      have k10 := h10 (hafter ⟨10, .data⟩ (by simp) rfl)
      obtain ⟨m16, rfl⟩ := k10
      have k11 := h11 (hafter ⟨11, .data⟩ (by simp) rfl)
      obtain ⟨m17, rfl⟩ := k11
      clear hafter hL
      refine wpOp_step (by rfl) (fun K hK => ?_)
      go_simp
      refine hK _ _ ?_
      exact ⟨_, _, _, _, _, _, _, _, _, _, _, _, _, _, _, rfl, hbel, fun h => h0 (by simpa using h), fun _ => ⟨_, rfl⟩, fun h => h2 (by simpa using h), fun h => h3 (by simpa using h), fun h => h4 (by simpa using h), fun _ => ⟨_, rfl⟩, fun _ => rfl, fun _ => ⟨_, rfl⟩, fun h => h8 (by simpa using h), fun _ => ⟨_, rfl⟩, fun _ => ⟨_, rfl⟩, fun _ => ⟨_, rfl⟩, fun _ => ⟨_, _, _, _, _, _, rfl⟩, fun h => h13 (by simpa using h), fun h => h14 (by simpa using h)⟩
    · injection ho with ho
      subst ho
      have k12 := h12 (hafter ⟨12, .data⟩ (by simp) rfl)
      obtain ⟨y7, y11, y13, y15, m16, m17, rfl⟩ := k12
      clear hafter hL
      refine wpOp_step (by rfl) (fun K hK => ?_)
      go_simp
      refine hK _ _ ?_
      exact ⟨_, _, _, _, _, _, _, _, _, _, _, _, _, _, _, rfl, below_new hbel (Nat.le_refl _) _, fun h => h0 (by simpa using h), fun h => h1 (by simpa using h), fun h => h2 (by simpa using h), fun h => h3 (by simpa using h), fun h => h4 (by simpa using h), fun h => h5 (by simpa using h), fun h => h6 (by simpa using h), fun h => h7 (by simpa using h), fun h => h8 (by simpa using h), fun h => h9 (by simpa using h), fun h => h10 (by simpa using h), fun h => h11 (by simpa using h), fun _ => ⟨_, _, _, _, _, _, rfl⟩, fun _ => ⟨_, rfl, hbel.size, _, _, _, _, _, _, blk_new _ _⟩, (fun h => let ⟨b, e1, e2, e3⟩ := (h14 (by simpa using h)); ⟨b, e1, e2, e3.alloc _⟩)⟩
    · injection ho with ho
      subst ho
      have k13 := h13 (hafter ⟨13, .data⟩ (by simp) rfl)
      obtain ⟨b19, rfl, hb19, hf19⟩ := k13
      clear hafter hL
      refine wpOp_step (by rfl) (fun K hK => ?_)
      go_simp
      refine hK _ _ ?_
      exact ⟨_, _, _, _, _, _, _, _, _, _, _, _, _, _, _, rfl, hbel, fun h => h0 (by simpa using h), fun h => h1 (by simpa using h), fun h => h2 (by simpa using h), fun h => h3 (by simpa using h), fun h => h4 (by simpa using h), fun h => h5 (by simpa using h), fun h => h6 (by simpa using h), fun h => h7 (by simpa using h), fun h => h8 (by simpa using h), fun h => h9 (by simpa using h), fun h => h10 (by simpa using h), fun h => h11 (by simpa using h), fun h => h12 (by simpa using h), fun _ => ⟨_, rfl, hb19, hf19⟩, fun _ => ⟨_, rfl, hb19, hf19⟩⟩
  · rintro L a W hall ⟨u5, u6, u7, u8, u9, u10, u11, u12, u13, u14, u15, u16, u17, u18, u19, rfl, hbel, h0, h1, h2, h3, h4, h5, h6, h7, h8, h9, h10, h11, h12, h13, h14⟩
    obtain ⟨b, rfl, hb, y7, y11, y13, y15, m16, m17, hblk⟩ := h14 (hall 14 (by decide))
    have HB := Lib.hid hbel
    have HK := Lib.hid hblk
    have k4 := blk_cell hblk 4 _ rfl
    have k5 := blk_cell hblk 5 _ rfl
    have f5 := blk_free hblk 5
    have hbl := blk_lt hblk
    have HL := Lib.hid hb
    clear hbel hblk hb h0 h1 h2 h3 h4 h5 h6 h7 h8 h9 h10 h11 h12 h13 h14 hall
    have k5' := blk_cell (blk_alloc HK.out (.cells #[.pointer (some y15)] 40)) 5 _ rfl
    have f5' := blk_free (blk_alloc HK.out (.cells #[.pointer (some y15)] 40)) 5
    go_wp2
    go_ret
    exact ⟨b, rfl, HL.out, below_new (HB.out.setCell (p := ⟨b, 5, none⟩) HL.out _) (Nat.le_refl _) _, _, _, _, _, _, _, _, _, _, _, blk_alloc (blk_set HK.out 5 _) _⟩

theorem zzCtx_any (s : ByteArray) (w : World) : Calls Tryf.prog 5 #[.string s] w (CtxPost w) := by
  go_enter Tryf.func5, Tryf.ntmps5
  go_wp2_with fail
  refine (ctx_any s w).mono ?_
  rintro e w' ⟨b, rfl, h1, h2, h3⟩
  go_wp2_with fail
  go_ret
  exact ⟨b, rfl, h1, h2, h3⟩
theorem regTop_any {w : World} {b : Nat} {r : Int} (h : CtxAt w b r) : Calls Tryf.prog 7 #[.pointer (some ⟨b, 0, none⟩)] w fun e w' => e = .returned (.int .i64 r) ∧ w = w' := by
  obtain ⟨c0, c1, c2, c3, c4, c5, c7, c8, c9, c10, hh⟩ := h
  have k := blk_cell hh 6 _ rfl
  clear hh
  go_enter Tryf.func7, Tryf.ntmps7
  go_wp2
  go_ret
  exact ⟨rfl, rfl⟩
theorem setTopM_any {w : World} {b : Nat} {r top : Int} (h : CtxAt w b r) (ht : top ≤ 200) : Calls Tryf.prog 10 #[.pointer (some ⟨b, 0, none⟩), .int .i64 top] w fun e w' => e = .returned (.tuple #[]) ∧ w.setCell ⟨b, 6, none⟩ (.int .i64 top) = w' := by
  obtain ⟨c0, c1, c2, c3, c4, c5, c7, c8, c9, c10, hh⟩ := h
  have k := blk_cell hh 6 _ rfl
  have f := blk_free hh 6
  have t : decide (200 < top) = false := decide_eq_false (by omega)
  clear hh
  go_enter Tryf.func10, Tryf.ntmps10
  go_wp2_with fail
  go_end0
  exact ⟨rfl, rfl⟩
theorem setTop_any {w : World} {b : Nat} {r top : Int} (h : CtxAt w b r) (ht : top ≤ 200) : Calls Tryf.prog 6 #[.pointer (some ⟨b, 0, none⟩), .int .i64 top] w fun e w' => e = .returned (.tuple #[]) ∧ CtxAt w' b top ∧ w.setCell ⟨b, 6, none⟩ (.int .i64 top) = w' := by
  have H := Lib.hid h
  clear h
  go_enter Tryf.func6, Tryf.ntmps6
  go_wp2_with fail
  refine (setTopM_any H.out ht).mono ?_
  rintro e w' ⟨rfl, rfl⟩
  go_wp2_with fail
  go_end0
  obtain ⟨c0, c1, c2, c3, c4, c5, c7, c8, c9, c10, hh⟩ := H.out
  exact ⟨rfl, ⟨c0, c1, c2, c3, c4, c5, c7, c8, c9, c10, blk_set hh 6 _⟩, rfl⟩

end Go.Proofs.YtkokfokcbhkcoaaFmt

