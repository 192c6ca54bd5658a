/-
  The given statement on FnLatestSaveWins: for every input the law returns true and leaves its arguments as they were. No condition beyond the statement's own.
  The frame was written by the kit's proof-skeleton.
-/
import Derived.Test.YtjhhnkfjidgooaaHelp91
import Derived.Test.YtjhhnkfjidgooaaRows
import Derived.WalkKit
import Derived.ProofKit
import Derived.OpenShut
import Derived.ShutString
import Derived.ChangeOld
import Derived.Below
namespace Go.Proofs.Ytjhhnkfjidgooaa.fnLatestSaveWins
open Go.ChangeShapes Go.WideShapes Go.ChangeAt Go.RowKit
open Go.ChangeMaps (open_string shut_string)
set_option linter.unusedVariables false

theorem own : ownKnob Try.prog.godebug = none := by kernel_rfl
theorem laidOut : laidOutB Try.prog = true := by kernel_rfl

/-- WHAT THE WALK IS TOLD OF A SLICE OF INTEGERS THAT CAME IN: it is nil; or it leads to a row of 'cap' cells, the numbers 'zs' (the first 'len' are its elements, the rest its spare room), each fitting its kind. -/
def IsRow (k : IntKind) (w : World) (a : Option Addr) (len cap : Nat) (zs : List Int) : Prop :=
  (a = none ∧ len = 0 ∧ cap = 0 ∧ zs = []) ∨
  ∃ x, a = some x ∧ len ≤ cap ∧ cap ≤ maxLen ∧ zs.length = cap ∧ (∀ i, i < zs.length → w.cell? (x.add i) = some (.int k (zs.getD i 0))) ∧ ∀ n ∈ zs, (Lit.int k n).wf = true

/-- What 'IsRow' says, over the elements alone. -/
theorem isRow_told {k : IntKind} {w : World} {a : Option Addr} {len cap : Nat} {zs : List Int} (h : IsRow k w a len cap zs) :
    ∃ ys : List Int, ys.length = len ∧ RowInt k w a ys ∧ (a = none → ys.length = 0) ∧ len ≤ 9223372036854775807 ∧ (∀ n, n ∈ ys → (Lit.int k n).wf = true) := by
  rcases h with ⟨rfl, rfl, rfl, rfl⟩ | ⟨x, rfl, hl, hm, hz, hcell, hwz⟩
  · exact ⟨[], rfl, fun h0 => absurd h0 (Nat.lt_irrefl _), fun _ => rfl, by omega, fun n hn => by simp at hn⟩
  · refine ⟨zs.take len, by simp; omega, fun h0 => ?_, fun h0 => (by cases h0), by unfold maxLen at hm; omega, fun n hn => hwz n (List.mem_of_mem_take hn)⟩
    have h0' : 0 < len := by simp at h0; omega
    have hsp : x.spot = none := by simpa [Addr.add] using World.cell?_spot (hcell 0 (by omega))
    obtain ⟨b, off, spot⟩ := x
    simp only at hsp
    subst hsp
    refine ⟨b, off, rfl, fun i hi => ?_⟩
    have h1 := hcell i (by simp at hi; omega)
    rw [addr_add] at h1
    rw [h1]
    simp only [List.length_take] at hi
    rw [List.getD_eq_getElem?_getD, List.getD_eq_getElem?_getD, List.getElem?_take_of_lt (by omega)]

set_option maxHeartbeats 1000000

/-! ### STEP 1: THE WALK: the Go text returns true, AND WRITES NOTHING THAT WAS THERE: 'Below w.heap.size w w'' (Derived/Below.lean: '.refl', '.alloc', '.drew', '.setCell' at a new block, '.trans'). Open each 'IsRow' by 'rcases' AHEAD of 'go_enter'; part every test ahead of the walk. -/
theorem walk (a0 : Option Addr) (len0 cap0 : Nat) (z0 : List Int) (a1 : Int) (a2 : Int) (a3 : Int) (w : World) (w0 : IsRow .u8 w a0 len0 cap0 z0) (w1 : (Lit.int .i64 a1).wf = true) (w2 : (Lit.int .i64 a2).wf = true) (w3 : (Lit.int .i64 a3).wf = true) :
    Calls Try.prog 4 #[.slice a0 len0 cap0, .int .i64 a1, .int .i64 a2, .int .i64 a3] w fun e w' => e = .returned (.bool true) ∧ Below w.heap.size w w' := by
  obtain ⟨ys, rfl, hrow, hnil, hlen, hwf⟩ := isRow_told w0
  clear w0
  have HW := Lib.hid (fun z hz => u8_bd (hwf z hz) : ∀ z, z ∈ ys → 0 ≤ z ∧ z ≤ 255)
  have HR := Lib.hid hrow
  have HNI := Lib.hid hnil
  clear hwf hrow hnil
  by_cases hb : ys.length ≤ 1048576
  · skip
    have tb : decide (ys.length ≤ 1048576) = true := decide_eq_true hb
    rcases (show (a1 < 0) ∨ (0 ≤ a1 ∧ 65536 < a1) ∨ (0 ≤ a1 ∧ a1 ≤ 65536 ∧ a2 < 0) ∨ (0 ≤ a1 ∧ a1 ≤ 65536 ∧ 0 ≤ a2 ∧ 65536 < a2) ∨ (0 ≤ a1 ∧ a1 ≤ 65536 ∧ 0 ≤ a2 ∧ a2 ≤ 65536 ∧ a3 < 0) ∨ (0 ≤ a1 ∧ a1 ≤ 65536 ∧ 0 ≤ a2 ∧ a2 ≤ 65536 ∧ 0 ≤ a3 ∧ 65536 < a3) ∨ (0 ≤ a1 ∧ a1 ≤ 65536 ∧ 0 ≤ a2 ∧ a2 ≤ 65536 ∧ 0 ≤ a3 ∧ a3 ≤ 65536) by omega) with q0 | ⟨q0, q1⟩ | ⟨q0, q1, q2⟩ | ⟨q0, q1, q2, q3⟩ | ⟨q0, q1, q2, q3, q4⟩ | ⟨q0, q1, q2, q3, q4, q5⟩ | ⟨q0, q1, q2, q3, q4, q5⟩
    · skip
      have tn0 : decide (a1 < 0) = true := decide_eq_true (by omega)
      go_enter Try.func4, Try.ntmps4
      go_wp2_with (go_at_call 16; refine (g_FnLatestSaveWins _ _ _ _ _ _ hlen _).mono ?_; rintro e w' ⟨rfl, rfl⟩)
      go_ret
      exact ⟨rfl, Below.refl _ _⟩
    · skip
      have tn0 : decide (a1 < 0) = false := decide_eq_false (by omega)
      have tn1 : decide (65536 < a1) = true := decide_eq_true (by omega)
      go_enter Try.func4, Try.ntmps4
      go_wp2_with (go_at_call 16; refine (g_FnLatestSaveWins _ _ _ _ _ _ hlen _).mono ?_; rintro e w' ⟨rfl, rfl⟩)
      go_ret
      exact ⟨rfl, Below.refl _ _⟩
    · skip
      have tn0 : decide (a1 < 0) = false := decide_eq_false (by omega)
      have tn1 : decide (65536 < a1) = false := decide_eq_false (by omega)
      have tn2 : decide (a2 < 0) = true := decide_eq_true (by omega)
      go_enter Try.func4, Try.ntmps4
      go_wp2_with (go_at_call 16; refine (g_FnLatestSaveWins _ _ _ _ _ _ hlen _).mono ?_; rintro e w' ⟨rfl, rfl⟩)
      go_ret
      exact ⟨rfl, Below.refl _ _⟩
    · skip
      have tn0 : decide (a1 < 0) = false := decide_eq_false (by omega)
      have tn1 : decide (65536 < a1) = false := decide_eq_false (by omega)
      have tn2 : decide (a2 < 0) = false := decide_eq_false (by omega)
      have tn3 : decide (65536 < a2) = true := decide_eq_true (by omega)
      go_enter Try.func4, Try.ntmps4
      go_wp2_with (go_at_call 16; refine (g_FnLatestSaveWins _ _ _ _ _ _ hlen _).mono ?_; rintro e w' ⟨rfl, rfl⟩)
      go_ret
      exact ⟨rfl, Below.refl _ _⟩
    · skip
      have tn0 : decide (a1 < 0) = false := decide_eq_false (by omega)
      have tn1 : decide (65536 < a1) = false := decide_eq_false (by omega)
      have tn2 : decide (a2 < 0) = false := decide_eq_false (by omega)
      have tn3 : decide (65536 < a2) = false := decide_eq_false (by omega)
      have tn4 : decide (a3 < 0) = true := decide_eq_true (by omega)
      go_enter Try.func4, Try.ntmps4
      go_wp2_with (go_at_call 16; refine (g_FnLatestSaveWins _ _ _ _ _ _ hlen _).mono ?_; rintro e w' ⟨rfl, rfl⟩)
      go_ret
      exact ⟨rfl, Below.refl _ _⟩
    · skip
      have tn0 : decide (a1 < 0) = false := decide_eq_false (by omega)
      have tn1 : decide (65536 < a1) = false := decide_eq_false (by omega)
      have tn2 : decide (a2 < 0) = false := decide_eq_false (by omega)
      have tn3 : decide (65536 < a2) = false := decide_eq_false (by omega)
      have tn4 : decide (a3 < 0) = false := decide_eq_false (by omega)
      have tn5 : decide (65536 < a3) = true := decide_eq_true (by omega)
      go_enter Try.func4, Try.ntmps4
      go_wp2_with (go_at_call 16; refine (g_FnLatestSaveWins _ _ _ _ _ _ hlen _).mono ?_; rintro e w' ⟨rfl, rfl⟩)
      go_ret
      exact ⟨rfl, Below.refl _ _⟩
    · skip
      obtain ⟨k0, rfl⟩ : ∃ k : Nat, a1 = (k : Int) := ⟨a1.toNat, by omega⟩
      have hk0 : k0 ≤ 65536 := by omega
      obtain ⟨k1, rfl⟩ : ∃ k : Nat, a2 = (k : Int) := ⟨a2.toNat, by omega⟩
      have hk1 : k1 ≤ 65536 := by omega
      obtain ⟨k2, rfl⟩ : ∃ k : Nat, a3 = (k : Int) := ⟨a3.toNat, by omega⟩
      have hk2 : k2 ≤ 65536 := by omega
      have tn0 : decide ((k0 : Int) < 0) = false := decide_eq_false (by omega)
      have tm0 : decide (65536 < (k0 : Int)) = false := decide_eq_false (by omega)
      have tn1 : decide ((k1 : Int) < 0) = false := decide_eq_false (by omega)
      have tm1 : decide (65536 < (k1 : Int)) = false := decide_eq_false (by omega)
      have tn2 : decide ((k2 : Int) < 0) = false := decide_eq_false (by omega)
      have tm2 : decide (65536 < (k2 : Int)) = false := decide_eq_false (by omega)
      clear q0 q1 q2 q3 q4 q5
      have hp0 : 0 ≤ (k0 : Int) := by omega
      have hp1 : 0 ≤ (k1 : Int) := by omega
      have hp2 : 0 ≤ (k2 : Int) := by omega
      go_enter Try.func4, Try.ntmps4
      go_wp2_with (go_at_call 16; refine (g_FnLatestSaveWins _ _ _ _ _ _ hlen _).mono ?_; rintro e w' ⟨rfl, rfl⟩)
      refine (copyB_any a0 cap0 ys _ HR.out HNI.out (by omega)).mono ?_
      rintro e w1 ⟨a', c', rfl, hn1, hf1, hr1, hb1⟩
      have HR1 := Lib.hid hr1
      have HB1 := Lib.hid hb1
      have HF1 := Lib.hid hf1
      clear hr1 hb1 hn1 hf1
      go_wp2_with fail
      refine (zzNew_any a' c' ys w1 HR1.out (by omega) HW.out).mono ?_
      rintro e w2 ⟨rfl, hs2, hb2⟩
      have HS2 := Lib.hid hs2
      have HB2 := Lib.hid hb2
      clear hs2 hb2
      generalize hgg : w1.heap.size = g at *
      have HGG := Lib.hid hgg
      clear hgg
      go_wp2_with fail
      refine (adv_any k0 (by omega) HS2.out).mono ?_
      rintro e w3 ⟨rfl, hs3, hg3⟩
      have HS3 := Lib.hid hs3
      clear hs3
      have HG3 := Lib.hid hg3
      clear hg3
      go_wp2_with fail
      refine (save_any HS3.out).mono ?_
      rintro e w4 ⟨rfl, hs4, hg4⟩
      have HS4 := Lib.hid hs4
      clear hs4
      have HG4 := Lib.hid hg4
      clear hg4
      go_wp2_with fail
      refine (adv_any k1 (by omega) HS4.out).mono ?_
      rintro e w5 ⟨rfl, hs5, hg5⟩
      have HS5 := Lib.hid hs5
      clear hs5
      have HG5 := Lib.hid hg5
      clear hg5
      go_wp2_with fail
      refine (save_any HS5.out).mono ?_
      rintro e w6 ⟨rfl, hs6, hg6⟩
      have HS6 := Lib.hid hs6
      clear hs6
      have HG6 := Lib.hid hg6
      clear hg6
      go_wp2_with fail
      refine (adv_any k2 (by omega) HS6.out).mono ?_
      rintro e w7 ⟨rfl, hs7, hg7⟩
      have HS7 := Lib.hid hs7
      clear hs7
      have HG7 := Lib.hid hg7
      clear hg7
      go_wp2_with fail
      refine (restore_any HS7.out).mono ?_
      rintro e w8 ⟨rfl, hs8, hg8⟩
      have HS8 := Lib.hid hs8
      clear hs8
      have HG8 := Lib.hid hg8
      clear hg8
      go_wp2_with fail
      refine (cur_is (k := k0 + k1) HS8.out (by exact posOf_eq (by omega))).mono ?_
      rintro e w' ⟨rfl, rfl⟩
      go_wp2_with fail
      refine (posAfter_int ys.length (k0 + k1) _ (by omega) (by omega) (by omega) _).mono ?_
      rintro e w' ⟨rfl, rfl⟩
      go_wp2_with fail
      refine (next_is (k := k0 + k1) HS8.out (by first | exact chr_eq (by omega) | exact chr_min _ _)).mono ?_
      rintro e w9 ⟨rfl, hs9, hg9⟩
      have HS9 := Lib.hid hs9
      clear hs9
      have HG9 := Lib.hid hg9
      clear hg9
      go_wp2_with fail
      refine (byteAt_int a' c' (k0 + k1) _ ys (by omega) (by omega) (by omega) HW.out _ (row_fin HR1.out HF1.out HB2.out HGG.out (one_trans (one_trans (one_trans (one_trans (one_trans (one_trans HG3.out HG4.out) HG5.out) HG6.out) HG7.out) HG8.out) HG9.out))).mono ?_
      rintro e w' ⟨rfl, rfl⟩
      go_wp2_with fail
      go_ret
      exact ⟨rfl, below_fin HB1.out HB2.out HGG.out (one_trans (one_trans (one_trans (one_trans (one_trans (one_trans HG3.out HG4.out) HG5.out) HG6.out) HG7.out) HG8.out) HG9.out)⟩
  · skip
    have tb : decide (ys.length ≤ 1048576) = false := decide_eq_false hb
    go_enter Try.func4, Try.ntmps4
    go_wp2_with (go_at_call 16; refine (g_FnLatestSaveWins _ _ _ _ _ _ hlen _).mono ?_; rintro e w' ⟨rfl, rfl⟩)
    go_ret
    exact ⟨rfl, Below.refl _ _⟩

/-! ### THE ROW's STEP: WRITTEN OUT: LEAVE IT -/
set_option maxRecDepth 100000 in
theorem lifted (os : Os) (started : os.Started) (H : Type) (enc : TypeId × Value → H) :
    ReturnsInHanded {} Try.checked os 4 .any (Rows.fnLatestSaveWinsSpec.pre6 enc Try.prog Try.f4 Rows.fnLatestSaveWinsRow.domain false) (Rows.fnLatestSaveWinsSpec.post enc Try.prog Try.f4 false true false false) := by
  refine returnsInHanded_of_change (C := Try.checked) own started (by kernel_rfl) Try.func4
    (ChangeSpec.witness6 (enc := enc) (C := Try.checked) false ⟨#[], #[.slice none 0 0, .int .i64 0, .int .i64 0, .int .i64 0], []⟩ 8 (by kernel_rfl) (by kernel_rfl) (by kernel_rfl) (by kernel_rfl)) ?_
  intro W base args ds gs before hval0 hW hcnd _
  have hval : ∀ (j : Nat) t v, Try.f4.params[j]? = some t → args[j]? = some v → Value.okWide Try.prog W .any base t v := hval0
  have hW' := hW
  obtain ⟨p, q, hA0, hV, rfl, hfz, hnd⟩ := hW
  have hA : DataW.TrodAll enc Try.prog W 0 (fun _ => true) true Try.f4.params.toList args.toList ds p := hA0
  rw [Try.params4] at hA hval
  obtain ⟨v0, vs0, d0, ds0, p0, q0, hargs, rfl, rfl, h0, r0⟩ := trodAll_cons hA
  obtain ⟨v1, vs1, d1, ds1, p1, q1, rfl, rfl, rfl, h1, r1⟩ := trodAll_cons r0
  obtain ⟨v2, vs2, d2, ds2, p2, q2, rfl, rfl, rfl, h2, r2⟩ := trodAll_cons r1
  obtain ⟨v3, vs3, d3, ds3, p3, q3, rfl, rfl, rfl, h3, r3⟩ := trodAll_cons r2
  obtain ⟨rfl, rfl, rfl⟩ := trodAll_nil r3
  obtain rfl : args = #[v0, v1, v2, v3] := by cases args; simp_all
  obtain ⟨rfl, rfl⟩ := trodVars_none hV
  obtain ⟨a0, len0, cap0, rfl⟩ := okWide_slice Try.underlying22 (hval 0 22 v0 rfl rfl)
  have k0 := h0
  have lt0 : ∀ x ∈ p0, x.block < W.heap.size := by obtain ⟨m, hm⟩ := k0; exact DataW.trod_lt m _ _ _ hm
  obtain ⟨z0, w0⟩ : ∃ zs, IsRow .u8 W a0 len0 cap0 zs := by
    obtain ⟨fuel, hf⟩ := h0
    rcases open_ints Try.underlying22 Try.underlying5 (by kernel_rfl) hf with ⟨hcs, _⟩ | ⟨x, l, c, zs, hcs, _, hl, hm, hz, _, hcell, hwz⟩
    · simp [Value.cells] at hcs
      obtain ⟨rfl, rfl, rfl⟩ := hcs
      exact ⟨[], .inl ⟨rfl, rfl, rfl, rfl⟩⟩
    · simp [Value.cells] at hcs
      obtain ⟨rfl, rfl, rfl⟩ := hcs
      exact ⟨zs, .inr ⟨_, rfl, hl, hm, by simpa using hz, hcell, hwz⟩⟩
  obtain ⟨a1, rfl, rfl, rfl, w1⟩ := open_int Try.underlying3 (hval 1 3 v1 rfl rfl) h1
  obtain ⟨a2, rfl, rfl, rfl, w2⟩ := open_int Try.underlying3 (hval 2 3 v2 rfl rfl) h2
  obtain ⟨a3, rfl, rfl, rfl, w3⟩ := open_int Try.underlying3 (hval 3 3 v3 rfl rfl) h3
  clear hA0 hval0
  refine (walk a0 len0 cap0 z0 a1 a2 a3 W w0 w1 w2 w3).mono fun e W' ⟨he, bel⟩ => ?_
  subst he
  exact ⟨_, rfl, _, _, _, [], _, [], hW', trodAll_mk1 (shut_bool Try.underlying4 _), (trodAll_cons_mk (Below.trod laidOut (by kernel_rfl) (of_decide_eq_true (by kernel_rfl)) k0 bel lt0) (trodAll_cons_mk (shut_int Try.underlying3 w1) (trodAll_cons_mk (shut_int Try.underlying3 w2) (trodAll_cons_mk (shut_int Try.underlying3 w3) trodAll_mk0)))), rfl, bel.frame _, fun h => by cases h⟩

theorem over : Rows.fnLatestSaveWinsRow.holds Try.pinned (OpenSpec.ofChange Rows.fnLatestSaveWinsSpec) :=
  OpenClaim.holds_of_wide 4 Try.f4 rfl rfl rfl rfl rfl rfl rfl ⟨rfl, rfl, rfl, rfl, rfl⟩ rfl rfl rfl rfl rfl (by kernel_rfl) Try.func4 (by kernel_rfl)
    (of_decide_eq_true (by kernel_rfl)) (by unfold Func.isWrapper; first | (rw [if_pos (by decide +kernel)]; kernel_rfl) | (rw [if_neg (by decide +kernel)]; exact ⟨rfl, rfl⟩))
    (fun os started H enc _ => lifted os started H enc)

/-- ████ THE STATEMENT ████ -/
theorem proved : Rows.FnLatestSaveWinsSaid := over
#print axioms proved
end Go.Proofs.Ytjhhnkfjidgooaa.fnLatestSaveWins
