/-
  The contracts of the package's three character tests and of the statement's own table look-up: what each returns for every int. No condition but that an int is a 64-bit number.
-/
import Derived.Test.YtjjlmjiocpjhcaaRows
import Derived.WalkKit
import Derived.ProofKit
import Derived.OpenShut
import Derived.Lib.Hide
namespace Go.Proofs.Ytjjlmjiocpjhcaa
open Go.RowKit
set_option linter.unusedVariables false
set_option linter.unusedSimpArgs false

theorem ret_bool {a b : Bool} (h : a = b) : Ending.returned (.bool a) = .returned (.bool b) := by rw [h]

theorem bool_t {p : Prop} [Decidable p] (h : p) : true = decide p := (decide_eq_true h).symm
theorem bool_f {p : Prop} [Decidable p] (h : ¬ p) : false = decide p := (decide_eq_false h).symm
theorem bool_d {p q : Prop} [Decidable p] [Decidable q] (h : q ↔ p) : decide q = decide p := by simp only [h]

def decB (c : Int) : Bool := decide (48 ≤ c ∧ c ≤ 57)
def hexB (c : Int) : Bool := decide ((48 ≤ c ∧ c ≤ 57) ∨ (97 ≤ c ∧ c ≤ 102) ∨ (65 ≤ c ∧ c ≤ 70))
def letB (c : Int) : Bool := decide ((65 ≤ c ∧ c ≤ 90) ∨ (97 ≤ c ∧ c ≤ 122))
def headB (c : Int) : Bool := decide (c = 95 ∨ (65 ≤ c ∧ c ≤ 90) ∨ (97 ≤ c ∧ c ≤ 122))
def idB (c pos : Int) : Bool := decide (c = 95 ∨ (65 ≤ c ∧ c ≤ 90) ∨ (97 ≤ c ∧ c ≤ 122) ∨ (48 ≤ c ∧ c ≤ 57 ∧ 0 < pos))

theorem dec_any (c : Int) (w : World) :
    Calls Try.prog 14 #[.int .i64 c] w fun e w' => e = .returned (.bool (decB c)) ∧ w = w' := by
  rcases (show c < 48 ∨ (48 ≤ c ∧ c ≤ 57) ∨ 57 < c by omega) with h | ⟨h, h'⟩ | h
  all_goals
    go_enter Try.func14, Try.ntmps14
    go_wp2
    go_ret
    exact ⟨ret_bool (by first | exact bool_t (by omega) | exact bool_f (by omega) | exact bool_d (by omega) | (rw [Bool.eq_iff_iff]; simp only [Bool.or_eq_true, decide_eq_true_eq, beq_iff_eq, hexB, letB, idB]; omega)), rfl⟩

theorem hex_any (c : Int) (w : World) :
    Calls Try.prog 15 #[.int .i64 c] w fun e w' => e = .returned (.bool (hexB c)) ∧ w = w' := by
  rcases (show c < 48 ∨ (48 ≤ c ∧ c ≤ 57) ∨ (57 < c ∧ c < 65) ∨ (65 ≤ c ∧ c ≤ 70) ∨ (70 < c ∧ c < 97) ∨ (97 ≤ c ∧ c ≤ 102) ∨ 102 < c by omega) with h | ⟨h, h'⟩ | ⟨h, h'⟩ | ⟨h, h'⟩ | ⟨h, h'⟩ | ⟨h, h'⟩ | h
  all_goals
    go_enter Try.func15, Try.ntmps15
    go_wp2
    go_ret
    exact ⟨ret_bool (by first | exact bool_t (by omega) | exact bool_f (by omega) | exact bool_d (by omega) | (rw [Bool.eq_iff_iff]; simp only [Bool.or_eq_true, decide_eq_true_eq, beq_iff_eq, hexB, letB, idB]; omega)), rfl⟩

theorem ident_any (c pos : Int) (w : World) :
    Calls Try.prog 16 #[.int .i64 c, .int .i64 pos] w fun e w' => e = .returned (.bool (idB c pos)) ∧ w = w' := by
  rcases (show c < 48 ∨ (48 ≤ c ∧ c ≤ 57 ∧ 0 < pos) ∨ (48 ≤ c ∧ c ≤ 57 ∧ pos ≤ 0) ∨ (57 < c ∧ c < 65) ∨ (65 ≤ c ∧ c ≤ 90) ∨ (90 < c ∧ c < 95) ∨ c = 95 ∨ c = 96 ∨ (97 ≤ c ∧ c ≤ 122) ∨ 122 < c by omega) with h | ⟨h, h', h''⟩ | ⟨h, h', h''⟩ | ⟨h, h'⟩ | ⟨h, h'⟩ | ⟨h, h'⟩ | rfl | rfl | ⟨h, h'⟩ | h
  all_goals
    go_enter Try.func16, Try.ntmps16
    go_wp2
    go_ret
    exact ⟨ret_bool (by first | exact bool_t (by omega) | exact bool_f (by omega) | exact bool_d (by omega) | (rw [Bool.eq_iff_iff]; simp only [Bool.or_eq_true, decide_eq_true_eq, beq_iff_eq, hexB, letB, idB]; omega)), rfl⟩

theorem let_any (c : Int) (w : World) :
    Calls Try.prog 13 #[.int .i64 c] w fun e w' => e = .returned (.bool (letB c)) ∧ w = w' := by
  rcases (show c < 65 ∨ (65 ≤ c ∧ c ≤ 90) ∨ (90 < c ∧ c < 97) ∨ (97 ≤ c ∧ c ≤ 122) ∨ 122 < c by omega) with h | ⟨h, h'⟩ | ⟨h, h'⟩ | ⟨h, h'⟩ | h
  all_goals
    go_enter Try.func13, Try.ntmps13
    go_wp2
    go_ret
    exact ⟨ret_bool (by first | exact bool_t (by omega) | exact bool_f (by omega) | exact bool_d (by omega) | (rw [Bool.eq_iff_iff]; simp only [Bool.or_eq_true, decide_eq_true_eq, beq_iff_eq, hexB, letB, idB]; omega)), rfl⟩

/-- Does the table's text hold the code c? -/
def tabB (l : List UInt8) (c : Int) : Bool := l.any fun b => decide ((b.toNat : Int) = c)

theorem tabB_take_succ (s : ByteArray) (k : Nat) (c : Int) (h : k < s.size) : tabB (s.data.toList.take (k + 1)) c = (tabB (s.data.toList.take k) c || decide ((s[k].toNat : Int) = c)) := by
  have : s.data.toList.take (k + 1) = s.data.toList.take k ++ [s[k]] := by
    rw [List.take_succ_eq_append_getElem (by simpa using h)]; rfl
  rw [this]; simp [tabB]

theorem tabB_of_take (l : List UInt8) (k : Nat) (c : Int) (h : tabB (l.take k) c = true) : tabB l c = true := by
  simp only [tabB, List.any_eq_true] at h ⊢
  obtain ⟨x, hx, hy⟩ := h
  exact ⟨x, List.mem_of_mem_take hx, hy⟩

theorem tabB_hit (s : ByteArray) (k : Nat) (c : Int) (h : k < s.size) (hc : (s[k].toNat : Int) = c) : tabB s.data.toList c = true :=
  tabB_of_take _ (k + 1) _ (by rw [tabB_take_succ s k c h]; simp [hc])

theorem tabB_miss (s : ByteArray) (k : Nat) (c : Int) (h : k < s.size) (hn : tabB (s.data.toList.take k) c = false) (hc : ¬ (s[k].toNat : Int) = c) : tabB (s.data.toList.take (k + 1)) c = false := by
  rw [tabB_take_succ s k c h, hn]; simp [hc]

set_option maxHeartbeats 400000 in
theorem tab_any (s : ByteArray) (c : Int) (w : World) (hs : s.size ≤ 1000) :
    Calls Try.prog 10 #[.string s, .int .i64 c] w fun e w' => e = .returned (.bool (tabB s.data.toList c)) ∧ w = w' := by
  go_enter Try.func10, Try.ntmps10
  go_wp2
  go_loop [5] (fun i => ∃ k : Nat, k ≤ s.size ∧ i = .int .i64 k ∧ tabB (s.data.toList.take k) c = false) (fun i => s.size - (intOf i).toNat)
  case atStart => exact ⟨0, Nat.zero_le _, rfl, rfl⟩
  case round =>
    obtain ⟨k, hk, rfl, hn⟩ := hrel
    have HN := Lib.hid hn
    clear hn
    by_cases hlt : k < s.size
    · have hb : s[k].toNat < 256 := UInt8.toNat_lt _
      go_wp2
      · go_ret
        have hc : (s[k].toNat : Int) = c := by simpa using ‹((s[k].toNat : Int) == c) = true›
        exact ⟨ret_bool (tabB_hit s k c hlt hc).symm, rfl⟩
      · have hc : ¬ (s[k].toNat : Int) = c := by simpa using ‹((s[k].toNat : Int) == c) = false›
        go_round
        case rel => exact ⟨k + 1, by omega, by go_num, tabB_miss s k c hlt HN.out hc⟩
        case measure => simp [intOf]; omega
    · go_wp2
      go_ret
      refine ⟨ret_bool ?_, rfl⟩
      rw [← HN.out, List.take_of_length_le (by simp; omega)]

/-- A table's text against a test: equal at the 256 bytes, and the test says no elsewhere. -/
theorem tab_byte (l : List UInt8) (f : Int → Bool) (hin : ∀ n : Nat, n < 256 → tabB l (n : Int) = f (n : Int)) (hout : ∀ c : Int, c < 0 ∨ 255 < c → f c = false) (c : Int) : tabB l c = f c := by
  by_cases h : 0 ≤ c ∧ c < 256
  · have := hin c.toNat (by omega)
    rwa [Int.toNat_of_nonneg h.1] at this
  · rw [hout c (by omega)]
    simp only [tabB, List.any_eq_false, decide_eq_true_eq]
    intro x _ hx
    have := UInt8.toNat_lt x
    omega

theorem tab_dec (c : Int) : tabB (ByteArray.mk #[48, 49, 50, 51, 52, 53, 54, 55, 56, 57]).data.toList c = decB c :=
  tab_byte _ decB (by decide +kernel) (fun c h => by simp only [decB, decide_eq_false_iff_not]; omega) c

theorem tab_hex (c : Int) : tabB (ByteArray.mk #[48, 49, 50, 51, 52, 53, 54, 55, 56, 57, 97, 98, 99, 100, 101, 102, 65, 66, 67, 68, 69, 70]).data.toList c = hexB c :=
  tab_byte _ hexB (by decide +kernel) (fun c h => by simp only [hexB, decide_eq_false_iff_not]; omega) c

theorem tab_head (c : Int) : tabB (ByteArray.mk #[95, 65, 66, 67, 68, 69, 70, 71, 72, 73, 74, 75, 76, 77, 78, 79, 80, 81, 82, 83, 84, 85, 86, 87, 88, 89, 90, 97, 98, 99, 100, 101, 102, 103, 104, 105, 106, 107, 108, 109, 110, 111, 112, 113, 114, 115, 116, 117, 118, 119, 120, 121, 122]).data.toList c = headB c :=
  tab_byte _ headB (by decide +kernel) (fun c h => by simp only [headB, decide_eq_false_iff_not]; omega) c

/-! The same, for a known answer (the fact hidden from the walk). -/
theorem dec_is (c : Int) (b : Bool) (w : World) (h : Hid (decB c = b)) : Calls Try.prog 14 #[.int .i64 c] w fun e w' => e = .returned (.bool b) ∧ w = w' := h.out ▸ dec_any c w
theorem hex_is (c : Int) (b : Bool) (w : World) (h : Hid (hexB c = b)) : Calls Try.prog 15 #[.int .i64 c] w fun e w' => e = .returned (.bool b) ∧ w = w' := h.out ▸ hex_any c w
theorem ident_is (c pos : Int) (b : Bool) (w : World) (h : Hid (idB c pos = b)) : Calls Try.prog 16 #[.int .i64 c, .int .i64 pos] w fun e w' => e = .returned (.bool b) ∧ w = w' := h.out ▸ ident_any c pos w
theorem let_is (c : Int) (b : Bool) (w : World) (h : Hid (letB c = b)) : Calls Try.prog 13 #[.int .i64 c] w fun e w' => e = .returned (.bool b) ∧ w = w' := h.out ▸ let_any c w
theorem tab_is (s : ByteArray) (c : Int) (b : Bool) (w : World) (hs : s.size ≤ 1000) (h : Hid (tabB s.data.toList c = b)) : Calls Try.prog 10 #[.string s, .int .i64 c] w fun e w' => e = .returned (.bool b) ∧ w = w' := h.out ▸ tab_any s c w hs
theorem dec_hid {c : Int} {b : Bool} (h : decB c = b) : Hid (tabB (ByteArray.mk #[48, 49, 50, 51, 52, 53, 54, 55, 56, 57]).data.toList c = b) := (tab_dec c).trans h
theorem head_hid {c : Int} {b : Bool} (h : headB c = b) : Hid (tabB (ByteArray.mk #[95, 65, 66, 67, 68, 69, 70, 71, 72, 73, 74, 75, 76, 77, 78, 79, 80, 81, 82, 83, 84, 85, 86, 87, 88, 89, 90, 97, 98, 99, 100, 101, 102, 103, 104, 105, 106, 107, 108, 109, 110, 111, 112, 113, 114, 115, 116, 117, 118, 119, 120, 121, 122]).data.toList c = b) := (tab_head c).trans h

end Go.Proofs.Ytjjlmjiocpjhcaa
