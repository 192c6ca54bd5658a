/-
  The contracts of MatchData's IsPosCapture and Capture. Their condition: the index is below the length.
-/
import Derived.Test.YtfobgfmejfbanaaMatch
namespace Go.Proofs.Ytfobgfmejfbanaa
open Go.RowKit
set_option linter.unusedVariables false
set_option linter.unusedSimpArgs false

theorem and_one (u : Int) (h0 : 0 ≤ u) (h1 : u < 4294967296) : bits .and .u32 u 1 = u % 2 := by
  have e1 : (BitVec.ofInt 32 u).toNat = u.toNat := by
    have : u = ((u.toNat : Nat) : Int) := by omega
    rw [this, BitVec.ofInt_natCast, BitVec.toNat_ofNat]
    rw [Int.toNat_natCast]; exact Nat.mod_eq_of_lt (by omega)
  have e2 : (BitVec.ofInt 32 (1 : Int)).toNat = 1 := rfl
  show IntKind.u32.wrap ((BitVec.ofInt 32 u &&& BitVec.ofInt 32 (1 : Int)).toNat : Int) = _
  rw [BitVec.toNat_and, e1, e2, Nat.and_one_is_mod, IntKind.wrap_u32]
  omega

theorem isPos_any {w : World} {m cap : Nat} {ao : Option Addr} {us : List Int} (i : Nat) (h : MD w m ao cap us) (hi : i < us.length) :
    Calls Try.prog 12 #[.pointer (some ⟨m, 0, none⟩), .int .i64 (i : Int)] w fun e w' => e = .returned (.bool (us.getD i 0 % 2 == 1)) ∧ w = w' := by
  obtain ⟨g, rfl, hne, hlt⟩ := h.row (by omega)
  have g0 : w.cell? ⟨m, 0, none⟩ = some (.slice (some ⟨g, 0, none⟩) us.length cap) := blk_cell h.blk 0 _ rfl
  have hc := h.cell i hi
  have hb := h.word i
  have hlen := h.len
  obtain ⟨u, hu⟩ : ∃ u, u = us.getD i 0 := ⟨_, rfl⟩
  rw [← hu] at hc hb
  rw [← hu]
  have hb1 := hb.1
  have hb2 := hb.2
  have hbits := and_one u hb1 hb2
  clear h hb hu
  go_enter Try.func12, Try.ntmps12
  go_wp2
  go_ret
  exact ⟨rfl, rfl⟩

theorem cap_any {w : World} {m cap : Nat} {ao : Option Addr} {us : List Int} (i : Nat) (h : MD w m ao cap us) (hi : i < us.length) :
    Calls Try.prog 11 #[.pointer (some ⟨m, 0, none⟩), .int .i64 (i : Int)] w fun e w' => e = .returned (.int .i64 (us.getD i 0 / 2)) ∧ w = w' := by
  obtain ⟨g, rfl, hne, hlt⟩ := h.row (by omega)
  have g0 : w.cell? ⟨m, 0, none⟩ = some (.slice (some ⟨g, 0, none⟩) us.length cap) := blk_cell h.blk 0 _ rfl
  have hc := h.cell i hi
  have hb := h.word i
  have hlen := h.len
  obtain ⟨u, hu⟩ : ∃ u, u = us.getD i 0 := ⟨_, rfl⟩
  rw [← hu] at hc hb
  rw [← hu]
  have hb1 := hb.1
  have hb2 := hb.2
  clear h hb hu
  go_enter Try.func11, Try.ntmps11
  go_wp2
  go_ret
  exact ⟨rfl, rfl⟩

theorem isPos_is {w : World} {m cap : Nat} {ao : Option Addr} {us : List Int} (i : Nat) (b : Bool) (h : MD w m ao cap us) (hi : i < us.length) (hb : Hid ((us.getD i 0 % 2 == 1) = b)) :
    Calls Try.prog 12 #[.pointer (some ⟨m, 0, none⟩), .int .i64 (i : Int)] w fun e w' => e = .returned (.bool b) ∧ w = w' := hb.out ▸ isPos_any i h hi
theorem cap_is {w : World} {m cap : Nat} {ao : Option Addr} {us : List Int} (i : Nat) (v : Int) (h : MD w m ao cap us) (hi : i < us.length) (hv : Hid (us.getD i 0 / 2 = v)) :
    Calls Try.prog 11 #[.pointer (some ⟨m, 0, none⟩), .int .i64 (i : Int)] w fun e w' => e = .returned (.int .i64 v) ∧ w = w' := hv.out ▸ cap_any i h hi
theorem posW_flag (p : Int) : (posW p % 2 == 1) = true := by rw [beq_iff_eq]; unfold posW capW; omega
theorem posW_val (p : Int) : posW p / 2 = p % 2147483648 := by unfold posW capW; omega
theorem capW_flag (p : Int) : (capW p % 2 == 1) = false := by rw [beq_eq_false_iff_ne]; unfold capW; omega
theorem capW_val (p : Int) : capW p / 2 = p % 2147483648 := by unfold capW; omega
theorem getD_set_same {l : List Int} {i : Nat} {v : Int} (h : i < l.length) : (l.set i v).getD i 0 = v := by
  rw [List.getD_eq_getElem?_getD, List.getElem?_set_self h]; rfl
theorem getD_set_ne {l : List Int} {i j : Nat} {v : Int} (h : i ≠ j) : (l.set i v).getD j 0 = l.getD j 0 := by
  rw [List.getD_eq_getElem?_getD, List.getD_eq_getElem?_getD, List.getElem?_set_ne h]
theorem getD_ext (l : List Int) (n j : Nat) : (ext l n).getD j 0 = l.getD j 0 := by
  unfold ext
  rcases Nat.lt_or_ge j l.length with h | h
  · rw [List.getD_eq_getElem?_getD, List.getElem?_append_left h, ← List.getD_eq_getElem?_getD]
  · rw [List.getD_eq_getElem?_getD, List.getElem?_append_right h, List.getD_eq_getElem?_getD, List.getElem?_eq_none h, List.getElem?_replicate]
    split <;> rfl

end Go.Proofs.Ytfobgfmejfbanaa
