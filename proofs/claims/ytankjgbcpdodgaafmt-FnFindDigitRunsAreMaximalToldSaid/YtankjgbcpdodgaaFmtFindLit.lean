/-
  What Find hands back for a literal. Its condition: the pattern's bytes are plain.
-/
import Derived.Test.YtankjgbcpdodgaaFmtFindHelp
namespace Go.Proofs.YtankjgbcpdodgaaFmt
open Go.RowKit
set_option linter.unusedVariables false
set_option linter.unusedSimpArgs false

theorem lit_slots' (L : List Int) : ∀ i, i ∈ progOf false ([Ins.save 0] ++ chrs L) → slotOk i := by
  intro i hi
  unfold progOf at hi
  simp only [Bool.false_eq_true, if_false, List.mem_append, List.mem_cons, List.not_mem_nil, or_false, chrs, List.mem_map] at hi
  rcases hi with (hi | ⟨z, _, hi⟩) | hi | hi <;> subst hi <;> simp [slotOk]
theorem litRes_fst (src L : List Int) (sp : Nat) : (litRes src L sp).1 = occ src L sp := by unfold litRes; cases occ src L sp <;> rfl
theorem litRes_le (src L : List Int) (sp : Nat) (h : sp ≤ src.length) : (litRes src L sp).2.1 ≤ src.length := by
  unfold litRes
  cases ho : occ src L sp with
  | true => exact ((occ_iff src L sp h).1 ho).1
  | false => exact h
/-- A match's words. -/
def litWord (n : Nat) (j : Nat) : List Int := [capW (j : Int), capW ((j + n : Nat) : Int)]
theorem find_lit (s : ByteArray) {w : World} {sao : Option Addr} {scap : Nat} {zs : List Int} (off : Nat) (limit : Int) {first : Bool} (hs : s.size ≤ 4096) (hp : Hid ((bz s).all plainZ = true)) (hf : first = (decide (off ≤ zs.length) && occ zs (bz s) off))
    (hsrc : RowInt .u8 w sao zs) (hsb : ∀ x, sao = some x → x.block < w.heap.size) (hby : ∀ z, z ∈ zs → 0 ≤ z ∧ z ≤ 255) (hlen : zs.length ≤ 65536) (hoff : off ≤ 9223372036854775807) :
    Calls Tryf.prog 20 #[.string s, .slice sao zs.length scap, .int .i64 off, .int .i64 limit] w (FindPost w (((litStarts zs (bz s) off).take (kept (litStarts zs (bz s) off).length first limit)).map (litWord s.size))) := by
  have h := find_any s (scap := scap) off limit (must := false) (tl := false) (l := lits (bz s)) (cf := (bz s).length + 1) (I' := [.save 0] ++ chrs (bz s)) (k' := 2) (d := 2) (res := litRes zs (bz s)) (by omega)
    (fun w b ao cap h => parsePat_lit h (by rw [bz_length]; omega) (fun z hz => List.all_eq_true.1 hp.out z hz)) (lit_crun _ _ _) (by rw [List.length_append]; simp only [chrs, List.length_map, bz_length, List.length_singleton]; omega) (by decide) (lit_slots' _) hsrc hsb hby hlen (fun sp _ => lit_vrun _ _ sp) (fun sp h => litRes_le _ _ sp h) (by decide) hoff
  rw [find_kept _ _ limit off first (by rw [hf, litRes_fst]), lit_all _ _ _ off (Nat.le_refl _), List.length_map, ← List.map_take, bz_length] at h
  exact h
theorem starts_ge (src L : List Int) : ∀ (k i : Nat), src.length + 1 - i ≤ k → ∀ j, j ∈ litStarts src L i → i ≤ j ∧ j ≤ src.length
  | k, i, hk, j, hj => by
    by_cases h : src.length < i
    · rw [starts_end h] at hj; cases hj
    · cases k with
      | zero => omega
      | succ k =>
        cases ho : occ src L i with
        | true =>
          rw [starts_yes (by omega) ho] at hj
          rcases List.mem_cons.1 hj with rfl | hj
          · omega
          · have := starts_ge src L k _ (by split <;> omega) j hj
            split at this <;> omega
        | false =>
          rw [starts_no (by omega) ho] at hj
          have := starts_ge src L k _ (by omega) j hj
          omega
theorem starts_first (src L : List Int) (off : Nat) : (∃ R', litStarts src L off = off :: R' ∧ (decide (off ≤ src.length) && occ src L off) = true) ∨ (litStarts src L off = [] ∧ (decide (off ≤ src.length) && occ src L off) = false) ∨ (∃ r R', litStarts src L off = r :: R' ∧ r ≠ off ∧ (decide (off ≤ src.length) && occ src L off) = false) := by
  by_cases h : src.length < off
  · exact .inr (.inl ⟨starts_end h, by simp; omega⟩)
  · cases ho : occ src L off with
    | true => exact .inl ⟨_, starts_yes (by omega) ho, by simp; omega⟩
    | false =>
      have h1 := starts_no (by omega) ho
      cases hR : litStarts src L (off + 1) with
      | nil => exact .inr (.inl ⟨by rw [h1, hR], by simp⟩)
      | cons r R' =>
        have := (starts_ge src L _ (off + 1) (Nat.le_refl _) r (by rw [hR]; exact List.mem_cons_self ..)).1
        exact .inr (.inr ⟨r, R', by rw [h1, hR], by omega, by simp⟩)
theorem occ_len {src L : List Int} {i : Nat} (h : i ≤ src.length) (ho : occ src L i = true) : i + L.length ≤ src.length := ((occ_iff src L i h).1 ho).1

end Go.Proofs.YtankjgbcpdodgaaFmt
