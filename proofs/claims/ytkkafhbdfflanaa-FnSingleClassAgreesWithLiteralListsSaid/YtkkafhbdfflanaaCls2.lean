/-
  The contracts of the statements' own helpers isClassLetter and inList and of the exported call of Matches, for every int. No condition.
-/
import Derived.Test.YtkkafhbdfflanaaSingle
namespace Go.Proofs.Ytkkafhbdfflanaa
open Go.RowKit
set_option linter.unusedVariables false
set_option linter.unusedSimpArgs false

/-- Does the table's text hold the code c? -/
def tabB (l : List UInt8) (c : Int) : Bool := l.any fun b => decide ((b.toNat : Int) = c)

theorem tabB_take_succ (s : ByteArray) (k : Nat) (c : Int) (h : k < s.size) : tabB (s.data.toList.take (k + 1)) c = (tabB (s.data.toList.take k) c || decide ((s[k].toNat : Int) = c)) := by
  have : s.data.toList.take (k + 1) = s.data.toList.take k ++ [s[k]] := by
    rw [List.take_succ_eq_append_getElem (by simpa using h)]; rfl
  rw [this]; simp [tabB]

theorem tabB_of_take (l : List UInt8) (k : Nat) (c : Int) (h : tabB (l.take k) c = true) : tabB l c = true := by
  simp only [tabB, List.any_eq_true] at h ⊢
  obtain ⟨x, hx, hy⟩ := h
  exact ⟨x, List.mem_of_mem_take hx, hy⟩

theorem tabB_hit (s : ByteArray) (k : Nat) (c : Int) (h : k < s.size) (hc : (s[k].toNat : Int) = c) : tabB s.data.toList c = true :=
  tabB_of_take _ (k + 1) _ (by rw [tabB_take_succ s k c h]; simp [hc])

theorem tabB_miss (s : ByteArray) (k : Nat) (c : Int) (h : k < s.size) (hn : tabB (s.data.toList.take k) c = false) (hc : ¬ (s[k].toNat : Int) = c) : tabB (s.data.toList.take (k + 1)) c = false := by
  rw [tabB_take_succ s k c h, hn]; simp [hc]

set_option maxHeartbeats 400000 in
theorem tab_any (s : ByteArray) (c : Int) (w : World) (hs : s.size ≤ 1000) :
    Calls Try.prog 9 #[.string s, .int .i64 c] w fun e w' => e = .returned (.bool (tabB s.data.toList c)) ∧ w = w' := by
  go_enter Try.func9, Try.ntmps9
  go_wp2
  go_loop [5] (fun i => ∃ k : Nat, k ≤ s.size ∧ i = .int .i64 k ∧ tabB (s.data.toList.take k) c = false) (fun i => s.size - (intOf i).toNat)
  case atStart => exact ⟨0, Nat.zero_le _, rfl, rfl⟩
  case round =>
    obtain ⟨k, hk, rfl, hn⟩ := hrel
    have HN := Lib.hid hn
    clear hn
    by_cases hlt : k < s.size
    · have hb : s[k].toNat < 256 := UInt8.toNat_lt _
      go_wp2
      · go_ret
        have hc : (s[k].toNat : Int) = c := by simpa using ‹((s[k].toNat : Int) == c) = true›
        exact ⟨sg_ret (tabB_hit s k c hlt hc).symm, rfl⟩
      · have hc : ¬ (s[k].toNat : Int) = c := by simpa using ‹((s[k].toNat : Int) == c) = false›
        go_round
        case rel => exact ⟨k + 1, by omega, by go_num, tabB_miss s k c hlt HN.out hc⟩
        case measure => simp [intOf]; omega
    · go_wp2
      go_ret
      refine ⟨sg_ret ?_, rfl⟩
      rw [← HN.out, List.take_of_length_le (by simp; omega)]

/-- A table's text against a test: equal at the 256 bytes, and the test says no elsewhere. -/
theorem tab_byte (l : List UInt8) (f : Int → Bool) (hin : ∀ n : Nat, n < 256 → tabB l (n : Int) = f (n : Int)) (hout : ∀ c : Int, c < 0 ∨ 255 < c → f c = false) (c : Int) : tabB l c = f c := by
  by_cases h : 0 ≤ c ∧ c < 256
  · have := hin c.toNat (by omega)
    rwa [Int.toNat_of_nonneg h.1] at this
  · rw [hout c (by omega)]
    simp only [tabB, List.any_eq_false, decide_eq_true_eq]
    intro x _ hx
    have := UInt8.toNat_lt x
    omega

set_option maxHeartbeats 400000 in
theorem icl_97 (w : World) : Calls Try.prog 7 #[.int .i64 97] w fun e w' => e = .returned (.bool true) ∧ w = w' := by
  go_enter Try.func7, Try.ntmps7
  go_wp2
  go_ret
  exact ⟨rfl, rfl⟩

set_option maxHeartbeats 400000 in
theorem icl_99 (w : World) : Calls Try.prog 7 #[.int .i64 99] w fun e w' => e = .returned (.bool true) ∧ w = w' := by
  go_enter Try.func7, Try.ntmps7
  go_wp2
  go_ret
  exact ⟨rfl, rfl⟩

set_option maxHeartbeats 400000 in
theorem icl_100 (w : World) : Calls Try.prog 7 #[.int .i64 100] w fun e w' => e = .returned (.bool true) ∧ w = w' := by
  go_enter Try.func7, Try.ntmps7
  go_wp2
  go_ret
  exact ⟨rfl, rfl⟩

set_option maxHeartbeats 400000 in
theorem icl_108 (w : World) : Calls Try.prog 7 #[.int .i64 108] w fun e w' => e = .returned (.bool true) ∧ w = w' := by
  go_enter Try.func7, Try.ntmps7
  go_wp2
  go_ret
  exact ⟨rfl, rfl⟩

set_option maxHeartbeats 400000 in
theorem icl_112 (w : World) : Calls Try.prog 7 #[.int .i64 112] w fun e w' => e = .returned (.bool true) ∧ w = w' := by
  go_enter Try.func7, Try.ntmps7
  go_wp2
  go_ret
  exact ⟨rfl, rfl⟩

set_option maxHeartbeats 400000 in
theorem icl_115 (w : World) : Calls Try.prog 7 #[.int .i64 115] w fun e w' => e = .returned (.bool true) ∧ w = w' := by
  go_enter Try.func7, Try.ntmps7
  go_wp2
  go_ret
  exact ⟨rfl, rfl⟩

set_option maxHeartbeats 400000 in
theorem icl_117 (w : World) : Calls Try.prog 7 #[.int .i64 117] w fun e w' => e = .returned (.bool true) ∧ w = w' := by
  go_enter Try.func7, Try.ntmps7
  go_wp2
  go_ret
  exact ⟨rfl, rfl⟩

set_option maxHeartbeats 400000 in
theorem icl_119 (w : World) : Calls Try.prog 7 #[.int .i64 119] w fun e w' => e = .returned (.bool true) ∧ w = w' := by
  go_enter Try.func7, Try.ntmps7
  go_wp2
  go_ret
  exact ⟨rfl, rfl⟩

set_option maxHeartbeats 400000 in
theorem icl_120 (w : World) : Calls Try.prog 7 #[.int .i64 120] w fun e w' => e = .returned (.bool true) ∧ w = w' := by
  go_enter Try.func7, Try.ntmps7
  go_wp2
  go_ret
  exact ⟨rfl, rfl⟩

set_option maxHeartbeats 400000 in
theorem icl_122 (w : World) : Calls Try.prog 7 #[.int .i64 122] w fun e w' => e = .returned (.bool true) ∧ w = w' := by
  go_enter Try.func7, Try.ntmps7
  go_wp2
  go_ret
  exact ⟨rfl, rfl⟩

theorem icl_no (cl : Int) (w : World) (h0 : cl ≠ 97 ∧ cl ≠ 99 ∧ cl ≠ 100 ∧ cl ≠ 108 ∧ cl ≠ 112 ∧ cl ≠ 115 ∧ cl ≠ 117 ∧ cl ≠ 119 ∧ cl ≠ 120 ∧ cl ≠ 122) : Calls Try.prog 7 #[.int .i64 cl] w fun e w' => e = .returned (.bool false) ∧ w = w' := by
  obtain ⟨n97, n99, n100, n108, n112, n115, n117, n119, n120, n122⟩ := h0
  go_enter Try.func7, Try.ntmps7
  go_wp2
  go_ret
  exact ⟨rfl, rfl⟩

theorem icl_any (cl : Int) (w : World) : Calls Try.prog 7 #[.int .i64 cl] w fun e w' => e = .returned (.bool (isLow cl)) ∧ w = w' := by
  by_cases e97 : cl = 97
  · subst e97; exact icl_97 w
  by_cases e99 : cl = 99
  · subst e99; exact icl_99 w
  by_cases e100 : cl = 100
  · subst e100; exact icl_100 w
  by_cases e108 : cl = 108
  · subst e108; exact icl_108 w
  by_cases e112 : cl = 112
  · subst e112; exact icl_112 w
  by_cases e115 : cl = 115
  · subst e115; exact icl_115 w
  by_cases e117 : cl = 117
  · subst e117; exact icl_117 w
  by_cases e119 : cl = 119
  · subst e119; exact icl_119 w
  by_cases e120 : cl = 120
  · subst e120; exact icl_120 w
  by_cases e122 : cl = 122
  · subst e122; exact icl_122 w
  have h1 : isLow cl = false := by simp only [isLow, decide_eq_false_iff_not]; omega
  rw [h1]
  exact icl_no cl w ⟨e97, e99, e100, e108, e112, e115, e117, e119, e120, e122⟩

theorem cell_box (w : World) (v : Value) (T : TypeId) : (w.alloc (.cells #[v] T)).cell? ⟨w.heap.size, 0, none⟩ = some v := by
  show (match (w.heap.push _)[w.heap.size]? with | some (.cells c _ _) => _ | _ => none) = _
  simp

theorem zz_any (cl ch : Int) (w : World) : Calls Try.prog 8 #[.int .i64 cl, .int .i64 ch] w fun e w' => e = .returned (.bool (singB cl ch)) ∧ ∃ c T, w' = w.alloc (.cells c T) := by
  go_enter Try.func8, Try.ntmps8
  go_wp2_with (go_at_call 15; go_loud (refine (single_any cl ch ⟨w.heap.size, 0, none⟩ _ (cell_box _ _ _)).mono ?_); rintro e w' ⟨rfl, rfl⟩)
  go_ret
  exact ⟨rfl, _, _, rfl⟩

theorem icl_is (cl : Int) (b : Bool) (w : World) (h : Hid (isLow cl = b)) : Calls Try.prog 7 #[.int .i64 cl] w fun e w' => e = .returned (.bool b) ∧ w = w' := h.out ▸ icl_any cl w
theorem zz_is (cl ch : Int) (b : Bool) (w : World) (h : Hid (singB cl ch = b)) : Calls Try.prog 8 #[.int .i64 cl, .int .i64 ch] w fun e w' => e = .returned (.bool b) ∧ ∃ c T, w' = w.alloc (.cells c T) := h.out ▸ zz_any cl ch w
theorem tab_is (s : ByteArray) (c : Int) (b : Bool) (w : World) (hs : s.size ≤ 1000) (h : Hid (tabB s.data.toList c = b)) : Calls Try.prog 9 #[.string s, .int .i64 c] w fun e w' => e = .returned (.bool b) ∧ w = w' := h.out ▸ tab_any s c w hs

theorem low_cases (cl : Int) (h : isLow cl = true) : cl = 97 ∨ cl = 99 ∨ cl = 100 ∨ cl = 108 ∨ cl = 112 ∨ cl = 115 ∨ cl = 117 ∨ cl = 119 ∨ cl = 120 ∨ cl = 122 := by simpa [isLow] using h
theorem low_bd (cl : Int) (h : isLow cl = true) : 97 ≤ cl ∧ cl ≤ 122 := by have := low_cases cl h; omega
theorem sing_low (cl ch : Int) (h : isLow cl = true) : singB cl ch = lowB cl ch := by simp [singB, h]
theorem sing_up (cl ch : Int) (h : isLow cl = true) : singB (cl - 32) ch = !lowB cl ch := by
  have hb := low_cases cl h
  have h1 : isLow (cl - 32) = false := by simp only [isLow, decide_eq_false_iff_not]; omega
  have h2 : cl - 32 + 32 = cl := by omega
  simp [singB, h1, h2, h]

end Go.Proofs.Ytkkafhbdfflanaa
