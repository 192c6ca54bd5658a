/-
  The contracts of the stack's making, of At, of the state's making, and of zzBuild. Their conditions: as each states.
-/
import Derived.Test.YtjbehcabekkjdaaFmtStack
namespace Go.Proofs.YtjbehcabekkjdaaFmt
open Go.RowKit
set_option linter.unusedVariables false
set_option linter.unusedSimpArgs false

theorem pushF_any {w : World} {c g N n : Nat} {F : Nat → Option Addr × Option Addr × Int} (h : StackO w c g N n F) (hn : n < N) (hN : N ≤ 4096) (pf pp : Option Addr) (t : Int) :
    Calls Tryf.prog 26 #[.pointer (some ⟨c, 0, none⟩), .pointer pf, .pointer pp, .int .i64 1, .int .i64 t] w fun e w' => e = .returned (.tuple #[]) ∧ StackO w' c g N (n + 1) (upd F n (pf, pp, t)) ∧ Kept2 w w' c g := by
  have H := Lib.hid h
  clear h
  go_enter Tryf.func26, Tryf.ntmps26
  go_wp2_with fail
  refine (push_any H.out hn hN pf pp t).mono ?_
  rintro e w1 ⟨rfl, hs, hk⟩
  have HS := Lib.hid hs
  have HK := Lib.hid hk
  clear hs hk
  go_wp2_with fail
  go_end0
  exact ⟨rfl, HS.out, HK.out⟩
theorem at_any {w : World} {c g N n : Nat} {F : Nat → Option Addr × Option Addr × Int} (h : StackO w c g N n F) (k : Nat) (hk : k < N) :
    Calls Tryf.prog 30 #[.pointer (some ⟨c, 0, none⟩), .int .i64 k] w fun e w' => e = .returned (.pointer (some ⟨g, k * 10, none⟩)) ∧ w = w' := by
  have k0 := h.c0
  have h1 : (k : Int) < (N : Int) := by omega
  clear h
  go_enter Tryf.func30, Tryf.ntmps30
  go_wp2_with fail
  go_ret
  exact ⟨rfl, rfl⟩
theorem zzAt_any {w : World} {c g N n : Nat} {F : Nat → Option Addr × Option Addr × Int} (h : StackO w c g N n F) (k : Nat) (hk : k < N) :
    Calls Tryf.prog 12 #[.pointer (some ⟨c, 0, none⟩), .int .i64 k] w fun e w' => e = .returned (.pointer (some ⟨g, k * 10, none⟩)) ∧ w = w' := by
  have H := Lib.hid h
  clear h
  go_enter Tryf.func12, Tryf.ntmps12
  go_wp2_with (go_at_call 30; refine (at_any H.out k hk).mono ?_; rintro e w' ⟨rfl, rfl⟩)
  go_ret
  exact ⟨rfl, rfl⟩
/-- A new stack: nothing on it. -/
def NewPost (w : World) (N : Nat) (e : Ending) (w' : World) : Prop :=
  e = .returned (.pointer (some ⟨w.heap.size + 1, 0, none⟩)) ∧ (∀ F, StackO w' (w.heap.size + 1) w.heap.size N 0 F) ∧ Below w.heap.size w w' ∧ w'.heap.size = w.heap.size + 2
theorem there_own {w : World} {B g N : Nat} {T : TypeId} {xs : List Value} (h : w.ownsRow B T 10 (.slice (some ⟨g, 0, none⟩) N N) N xs) : w.there g 0 (N * 10) := fun j hj => by
  rw [Nat.zero_add]
  exact ⟨by rw [h.cellAt j hj, List.getElem?_eq_getElem (by rw [h.1]; exact hj)]; rfl, own_free h j⟩
theorem new_any (N : Nat) (w : World) (hN : N ≤ 4096) : Calls Tryf.prog 24 #[.int .i64 N] w (NewPost w N) := by
  obtain ⟨i0, hi, hz0, hz1, hz2⟩ := info_parts' frame_info
  have hmk0 := run_make (P := Tryf.prog) w 67 89 i0 _ Tryf.underlying67 hi hz0 .i64 .i64 N N (by omega) (Int.le_refl _) (by rw [hz2]; omega) (by omega)
  simp only [Int.toNat_natCast] at hmk0
  have ho := World.ownsRow_lit (e := 89) (size := 10) (base := w.heap.size) w (madeCells (Value.agg #[.int .i64 0, .pointer none, .pointer none, .int .i64 0, .int .i64 0, .int .i64 0, .int .i64 0, .int .i64 0, .int .i64 0, .int .i64 0]).cells (N * i0.size)) N (Nat.le_refl _) (by unfold maxLen; omega) (by rw [size_madeCells, hz1])
  have hg : w.grownBy (w.alloc (.cells (madeCells (Value.agg #[.int .i64 0, .pointer none, .pointer none, .int .i64 0, .int .i64 0, .int .i64 0, .int .i64 0, .int .i64 0, .int .i64 0, .int .i64 0]).cells (N * i0.size)) 89)) none := World.grownBy_alloc w _ none
  have hs1 : (w.alloc (.cells (madeCells (Value.agg #[.int .i64 0, .pointer none, .pointer none, .int .i64 0, .int .i64 0, .int .i64 0, .int .i64 0, .int .i64 0, .int .i64 0, .int .i64 0]).cells (N * i0.size)) 89)).heap.size = w.heap.size + 1 := by simp
  have hb := (Below.refl w.heap.size w).alloc (Nat.le_refl _) (.cells (madeCells (Value.agg #[.int .i64 0, .pointer none, .pointer none, .int .i64 0, .int .i64 0, .int .i64 0, .int .i64 0, .int .i64 0, .int .i64 0, .int .i64 0]).cells (N * i0.size)) 89)
  generalize w.alloc (.cells (madeCells (Value.agg #[.int .i64 0, .pointer none, .pointer none, .int .i64 0, .int .i64 0, .int .i64 0, .int .i64 0, .int .i64 0, .int .i64 0, .int .i64 0]).cells (N * i0.size)) 89) = w1 at *
  generalize hm : madeCells _ _ = mc at *
  have HO := Lib.hid ho
  have HB := Lib.hid hb
  have HS := Lib.hid hs1
  clear ho hg hb hi hz0 hz1 hz2 hm hs1
  go_enter Tryf.func24, Tryf.ntmps24
  go_wp2_with fail
  go_ret
  have hs1 := HS.out
  have hb2 := blk_new w1 (.cells #[.slice (some ⟨w.heap.size, 0, none⟩) N N, .int .i64 0] 69)
  rw [hs1] at hb2 ⊢
  refine ⟨rfl, fun F => ⟨blk_cell hb2 0 _ rfl, blk_cell hb2 1 _ rfl, blk_free hb2 1, there_own (HO.out.alloc _), by omega, by simp [hs1], by simp [hs1]; omega, fun i hi => absurd hi (Nat.not_lt_zero _)⟩, HB.out.alloc (by rw [hs1]; omega) _, by simp [hs1]⟩
end Go.Proofs.YtjbehcabekkjdaaFmt
