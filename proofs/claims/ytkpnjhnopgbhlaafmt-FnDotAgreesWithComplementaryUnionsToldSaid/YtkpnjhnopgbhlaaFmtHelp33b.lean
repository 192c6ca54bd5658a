/-
  The contract of n005_33's alphanumeric test and byte guard; what the class parser makes of sets of alphanumeric bytes and of one range. No condition beyond what each states.
-/
import Derived.Test.YtkpnjhnopgbhlaaFmtHelp33
import Derived.BigGuardPart
namespace Go.Proofs.YtkpnjhnopgbhlaaFmt
open Go.RowKit
set_option linter.unusedVariables false
set_option linter.unusedSimpArgs false

def alnB (b : Int) : Bool := decide ((48 ≤ b ∧ b ≤ 57) ∨ (97 ≤ b ∧ b ≤ 122) ∨ (65 ≤ b ∧ b ≤ 90))
theorem alnum_any (b : Int) (hb : 0 ≤ b ∧ b ≤ 255) (w : World) : Calls Tryf.prog 10 #[.int .u8 b] w fun e w' => e = .returned (.bool (alnB b)) ∧ w = w' := by
  have h0 := hb.1
  have h1 := hb.2
  clear hb
  rcases (show b < 48 ∨ (48 ≤ b ∧ b ≤ 57) ∨ (57 < b ∧ b < 65) ∨ (65 ≤ b ∧ b ≤ 90) ∨ (90 < b ∧ b < 97) ∨ (97 ≤ b ∧ b ≤ 122) ∨ 122 < b by omega) with h | ⟨h, h'⟩ | ⟨h, h'⟩ | ⟨h, h'⟩ | ⟨h, h'⟩ | ⟨h, h'⟩ | h
  all_goals
    go_enter Tryf.func10, Tryf.ntmps10
    go_wp2
    all_goals (go_ret; exact ⟨ret_bool (by first | (exfalso; omega) | (symm; simp only [alnB, decide_eq_true_eq]; omega) | (symm; simp only [alnB, decide_eq_false_iff_not]; omega) | (rw [Bool.eq_iff_iff]; simp only [alnB, Bool.or_eq_true, Bool.and_eq_true, decide_eq_true_eq]; omega)), rfl⟩)
theorem alnum_is (b : Int) (v : Bool) (hb : 0 ≤ b ∧ b ≤ 255) (hv : Hid (alnB b = v)) (w : World) : Calls Tryf.prog 10 #[.int .u8 b] w fun e w' => e = .returned (.bool v) ∧ w = w' := hv.out ▸ alnum_any b hb w

theorem zzParsed_is (s : ByteArray) (ch : Int) (v : Bool) (w : World) (hl : s.size ≤ 4194304) {R : Cl × Nat} (hR : Hid (parseCls (bz s) 0 = some R)) (hv : Hid (R.1.has ch = v)) :
    Calls Tryf.prog 9 #[.string s, .int .i64 ch] w fun e w' => e = .returned (.bool v) ∧ Below w.heap.size w w' := hv.out ▸ zzParsed_any s ch w hl hR.out

theorem sz_wrap {p q sb : ByteArray} (hp : p.size ≤ 8) (hq : q.size ≤ 8) (h : sb.size ≤ 1048576) : (p ++ sb ++ q).size ≤ 4194304 := by
  rw [ByteArray.size_append, ByteArray.size_append]; omega
theorem bz_append (a b : ByteArray) : bz (a ++ b) = bz a ++ bz b := by simp [bz]
theorem chr_at {A l : List Int} {x : Int} : chr (A ++ (x :: l)) A.length = x := by
  unfold chr
  rw [if_pos (by simp), List.getD_eq_getElem?_getD, List.getElem?_append_right (Nat.le_refl _)]; simp
theorem aln_ne {x : Int} (h : alnB x = true) : x ≠ 37 ∧ x ≠ 93 ∧ x ≠ 45 ∧ x ≠ 94 := by
  simp only [alnB, decide_eq_true_eq] at h; omega

theorem setLoop_alnum : ∀ (l A : List Int) (acc : List El), (∀ x, x ∈ l → alnB x = true) → (acc ≠ [] ∨ l ≠ []) →
    setLoop (A ++ (l ++ [93])) A.length acc false = some (acc ++ l.map .chr, false, A.length + l.length + 1)
  | [], A, acc, _, hne => by
    have hacc : acc ≠ [] := by simpa using hne
    rw [setLoop, if_neg (by simp), List.nil_append, chr_at, if_pos ⟨rfl, hacc⟩]
    simp
  | x :: l, A, acc, hl, _ => by
    have hx := aln_ne (hl x (by simp))
    have hc : chr (A ++ (x :: l ++ [93])) A.length = x := by rw [List.cons_append]; exact chr_at
    rw [setLoop, if_neg (by simp), hc, if_neg (by omega), if_neg (by omega)]
    have he : elem (A ++ (x :: l ++ [93])) A.length = (.chr x, A.length + 1) := by unfold elem; rw [hc, if_neg hx.1]
    rw [he]
    have ih := setLoop_alnum l (A ++ [x]) (acc ++ [.chr x]) (fun y hy => hl y (by simp [hy])) (.inl (by simp))
    rw [show A ++ [x] ++ (l ++ [93]) = A ++ (x :: l ++ [93]) by simp, show (A ++ [x]).length = A.length + 1 by simp] at ih
    simp only [Bool.false_eq_true, if_false]
    rw [ih]
    simp; omega

theorem parse_set (l : List Int) (hl : ∀ x, x ∈ l → alnB x = true) (hne : l ≠ []) (neg : Bool) :
    parseCls ((if neg then [91, 94] else [91]) ++ (l ++ [93])) 0 = some (.set neg (l.map .chr), (if neg then 2 else 1) + l.length + 1) := by
  cases neg with
  | true =>
    have h := setLoop_alnum l [91, 94] [] hl (.inr hne)
    have c0 : chr ([91, 94] ++ (l ++ [93])) 0 = 91 := rfl
    have c1 : chr ([91, 94] ++ (l ++ [93])) 1 = 94 := by
      show chr ([91] ++ (94 :: (l ++ [93]))) [91].length = 94; exact chr_at
    simp only [if_true]
    unfold parseCls
    rw [if_neg (by simp), c0, if_neg (by decide), if_neg (by decide), if_pos rfl]
    unfold parseSet
    rw [Nat.zero_add, c1, if_pos rfl]
    have h' : setLoop ([91, 94] ++ (l ++ [93])) (1 + 1) [] false = some ([] ++ l.map .chr, false, 2 + l.length + 1) := h
    rw [h']
    rfl
  | false =>
    have h := setLoop_alnum l [91] [] hl (.inr hne)
    obtain ⟨x, l', rfl⟩ : ∃ x l', l = x :: l' := by cases l with | nil => exact absurd rfl hne | cons x l' => exact ⟨x, l', rfl⟩
    have hx := aln_ne (hl x (by simp))
    have c0 : chr ([91] ++ (x :: l' ++ [93])) 0 = 91 := rfl
    have c1 : chr ([91] ++ (x :: l' ++ [93])) 1 = x := by
      show chr ([91] ++ (x :: (l' ++ [93]))) [91].length = x; exact chr_at
    simp only [Bool.false_eq_true, if_false]
    unfold parseCls
    rw [if_neg (by simp), c0, if_neg (by decide), if_neg (by decide), if_pos rfl]
    unfold parseSet
    rw [Nat.zero_add, c1, if_neg hx.2.2.2]
    have h' : setLoop ([91] ++ (x :: l' ++ [93])) 1 [] false = some ([] ++ (x :: l').map .chr, false, 1 + (x :: l').length + 1) := h
    rw [h']
    rfl

theorem setLoop_range (A : List Int) (x y : Int) (hx : alnB x = true) (hy : alnB y = true) :
    setLoop (A ++ [x, 45, y, 93]) A.length [] false = some ([.rng (.chr x) (.chr y)], false, A.length + 4) := by
  have nx := aln_ne hx
  have ny := aln_ne hy
  have c0 : chr (A ++ [x, 45, y, 93]) A.length = x := chr_at
  have c1 : chr (A ++ [x, 45, y, 93]) (A.length + 1) = 45 := by
    have := @chr_at (A ++ [x]) [y, 93] 45; simpa using this
  have c2 : chr (A ++ [x, 45, y, 93]) (A.length + 2) = y := by
    have := @chr_at (A ++ [x, 45]) [93] y; simpa using this
  have c3 : chr (A ++ [x, 45, y, 93]) (A.length + 3) = 93 := by
    have := @chr_at (A ++ [x, 45, y]) [] 93; simpa using this
  have e0 : elem (A ++ [x, 45, y, 93]) A.length = (.chr x, A.length + 1) := by unfold elem; rw [c0, if_neg nx.1]
  have e2 : elem (A ++ [x, 45, y, 93]) (A.length + 2) = (.chr y, A.length + 3) := by unfold elem; rw [c2, if_neg ny.1]
  rw [setLoop, if_neg (by simp), c0, if_neg (by omega), if_neg (by omega), e0]
  simp only [Bool.false_eq_true, if_false, List.nil_append]
  rw [setLoop, if_neg (by simp), c1, if_neg (by omega), if_pos ⟨rfl, by simp⟩]
  rw [setLoop, if_neg (by simp), c2, if_neg (by omega), if_neg (by omega), e2]
  simp only [if_true]
  rw [setLoop, if_neg (by simp), c3, if_pos ⟨rfl, by simp [rangeUp]⟩]
  rfl

theorem parse_range (x y : Int) (hx : alnB x = true) (hy : alnB y = true) (neg : Bool) :
    parseCls ((if neg then [91, 94] else [91]) ++ [x, 45, y, 93]) 0 = some (.set neg [.rng (.chr x) (.chr y)], (if neg then 6 else 5)) := by
  have nx := aln_ne hx
  cases neg with
  | true =>
    have h := setLoop_range [91, 94] x y hx hy
    simp only [if_true]
    unfold parseCls
    rw [if_neg (by simp), show chr ([91, 94] ++ [x, 45, y, 93]) 0 = 91 from rfl, if_neg (by decide), if_neg (by decide), if_pos rfl]
    unfold parseSet
    rw [Nat.zero_add, show chr ([91, 94] ++ [x, 45, y, 93]) 1 = 94 from rfl, if_pos rfl]
    have h' : setLoop ([91, 94] ++ [x, 45, y, 93]) (1 + 1) [] false = _ := h
    rw [h']
    rfl
  | false =>
    have h := setLoop_range [91] x y hx hy
    simp only [Bool.false_eq_true, if_false]
    unfold parseCls
    rw [if_neg (by simp), show chr ([91] ++ [x, 45, y, 93]) 0 = 91 from rfl, if_neg (by decide), if_neg (by decide), if_pos rfl]
    unfold parseSet
    rw [Nat.zero_add, show chr ([91] ++ [x, 45, y, 93]) 1 = x from rfl, if_neg nx.2.2.2]
    have h' : setLoop ([91] ++ [x, 45, y, 93]) 1 [] false = _ := h
    rw [h']
    rfl

/-- A class letter's two sets: together everything. -/
theorem letter_union (k ch : Int) (hk : isLow k = true) (hk2 : isLow (k - 32) = false) : (singB k ch || singB (k - 32) ch) = true := by
  unfold singB
  rw [if_pos hk, if_neg (by simp [hk2]), show k - 32 + 32 = k by omega, if_pos hk]
  simp
theorem parse_union (k : Int) (hk : 65 ≤ k) (hk1 : k ≤ 122) (h93 : k ≠ 93) (m : Int) (hm : 65 ≤ m) (hm1 : m ≤ 122) : parseCls [91, 37, k, 37, m, 93] 0 = some (.set false [.sgl k, .sgl m], 6) := by
  have c1 : chr [91, 37, k, 37, m, 93] 1 = 37 := rfl
  have c2 : chr [91, 37, k, 37, m, 93] 2 = k := rfl
  have c3 : chr [91, 37, k, 37, m, 93] 3 = 37 := rfl
  have c4 : chr [91, 37, k, 37, m, 93] 4 = m := rfl
  have c5 : chr [91, 37, k, 37, m, 93] 5 = 93 := rfl
  unfold parseCls
  rw [if_neg (by simp), show chr [91, 37, k, 37, m, 93] 0 = 91 from rfl, if_neg (by decide), if_neg (by decide), if_pos rfl]
  unfold parseSet
  rw [Nat.zero_add, c1, if_neg (by decide)]
  rw [setLoop, if_neg (by simp), c1, if_neg (by decide), if_neg (by decide), show elem [91, 37, k, 37, m, 93] 1 = (.sgl k, 3) from rfl]
  simp only [Bool.false_eq_true, if_false, List.nil_append]
  rw [setLoop, if_neg (by simp), c3, if_neg (by omega), if_neg (by omega), show elem [91, 37, k, 37, m, 93] 3 = (.sgl m, 5) from rfl]
  simp only [Bool.false_eq_true, if_false]
  rw [setLoop, if_neg (by simp), c5, if_pos ⟨rfl, by simp⟩]
  rfl
theorem parse_nunion (k m : Int) : parseCls [91, 94, 37, k, 37, m, 93] 0 = some (.set true [.sgl k, .sgl m], 7) := by
  have c3 : chr [91, 94, 37, k, 37, m, 93] 2 = 37 := rfl
  have c4 : chr [91, 94, 37, k, 37, m, 93] 4 = 37 := rfl
  have c6 : chr [91, 94, 37, k, 37, m, 93] 6 = 93 := rfl
  unfold parseCls
  rw [if_neg (by simp), show chr [91, 94, 37, k, 37, m, 93] 0 = 91 from rfl, if_neg (by decide), if_neg (by decide), if_pos rfl]
  unfold parseSet
  rw [Nat.zero_add, show chr [91, 94, 37, k, 37, m, 93] 1 = 94 from rfl, if_pos rfl]
  rw [setLoop, if_neg (by simp), c3, if_neg (by decide), if_neg (by decide), show elem [91, 94, 37, k, 37, m, 93] 2 = (.sgl k, 4) from rfl]
  simp only [Bool.false_eq_true, if_false, List.nil_append]
  rw [setLoop, if_neg (by simp), c4, if_neg (by omega), if_neg (by omega), show elem [91, 94, 37, k, 37, m, 93] 4 = (.sgl m, 6) from rfl]
  simp only [Bool.false_eq_true, if_false]
  rw [setLoop, if_neg (by simp), c6, if_pos ⟨rfl, by simp⟩]
  rfl

end Go.Proofs.YtkpnjhnopgbhlaaFmt
