/-
  The given statement on FnTokenStringIgnoresTypeAndPosition: for every input the law returns true and leaves its arguments as they were. No condition beyond the statement's own; no text of fmt is come to.
-/
import Derived.Test.YtpadgbghgkcogaaFmtHelp26
import Derived.Test.YtpadgbghgkcogaaFmtRows
import Derived.Test.YtpadgbghgkcogaaFmtCards
import Derived.WalkKit
import Derived.ProofKit
import Derived.OpenShut
import Derived.ShutString
import Derived.ChangeOld
import Derived.Below
import Derived.Stop.JoinedAt
import Derived.Stop.JoinedTold
import Derived.SevenToldRow
namespace Go.Proofs.YtpadgbghgkcogaaFmt.fnTokenStringIgnoresTypeAndPosition
open Go.ChangeShapes Go.WideShapes Go.ChangeAt Go.RowKit
open Go.ChangeMaps (open_string shut_string)
open Go.Extern.Stop Go.Stop Go.Extern
set_option linter.unusedVariables false
set_option linter.unusedSimpArgs false

theorem own : ownKnob Tryf.prog.godebug = none := by kernel_rfl
theorem laidOut : laidOutB Tryf.prog = true := by kernel_rfl
theorem stops : Tryf.pinned.checked.prog.stops = ["fmt.Sprintf"] := by kernel_rfl
theorem stopKnobs : Tryf.pinned.checked.prog.stopKnobs = [] := by kernel_rfl
theorem quiet (os : Os) : Stop.quiet Tryf.pinned.checked.prog os := by
  intro k hk
  rw [stopKnobs] at hk
  cases hk

set_option maxHeartbeats 4000000
set_option maxRecDepth 100000

/-! ### THE WALK -/
theorem walk (F : Interp) (a0 : Int) (a1 : Int) (a2 : ByteArray) (a3 : ByteArray) (a4 : ByteArray) (a5 : ByteArray) (a6 : Int) (a7 : Int) (a8 : Int) (a9 : Int) (w : World) (hF : F.told.answers w.tape) (w0 : (Lit.int .i64 a0).wf = true) (w1 : (Lit.int .i64 a1).wf = true) (w2 : a2.size ≤ maxLen) (w3 : a3.size ≤ maxLen) (w4 : a4.size ≤ maxLen) (w5 : a5.size ≤ maxLen) (w6 : (Lit.int .i64 a6).wf = true) (w7 : (Lit.int .i64 a7).wf = true) (w8 : (Lit.int .i64 a8).wf = true) (w9 : (Lit.int .i64 a9).wf = true) :
    Calls Tryf.prog 3 #[.int .i64 a0, .int .i64 a1, .string a2, .string a3, .string a4, .string a5, .int .i64 a6, .int .i64 a7, .int .i64 a8, .int .i64 a9] w fun e w' => e = .returned (.bool true) ∧ Below w.heap.size w w' := by
  unfold maxLen at w2 w3 w4 w5
  by_cases hb : a2.size + a3.size + a4.size + a5.size ≤ 1048576
  · have tb : G26 a2.size a3.size a4.size a5.size = true := decide_eq_true hb
    have t1 : decide (1048576 < (a2.size : Int)) = false := decide_eq_false (by omega)
    have t2 : decide (1048576 < (a3.size : Int)) = false := decide_eq_false (by omega)
    have t3 : decide (1048576 < (a4.size : Int)) = false := decide_eq_false (by omega)
    have t4 : decide (1048576 < (a5.size : Int)) = false := decide_eq_false (by omega)
    have hs1 : (w.alloc (.cells #[.int .i64 a0, .string a2, .string a3, .string a4, .int .i64 a6, .int .i64 a7] 27)).heap.size = w.heap.size + 1 := by simp
    have HB1 := Lib.hid (blk_alloc (blk_new w (.cells #[.int .i64 a0, .string a2, .string a3, .string a4, .int .i64 a6, .int .i64 a7] 27)) (.cells #[.int .i64 a1, .string a2, .string a3, .string a5, .int .i64 a8, .int .i64 a9] 27))
    have hb2 := blk_new (w.alloc (.cells #[.int .i64 a0, .string a2, .string a3, .string a4, .int .i64 a6, .int .i64 a7] 27)) (.cells #[.int .i64 a1, .string a2, .string a3, .string a5, .int .i64 a8, .int .i64 a9] 27)
    rw [hs1] at hb2
    have HB2 := Lib.hid hb2
    have HBE := Lib.hid (((Below.refl w.heap.size w).alloc (Nat.le_refl _) (.cells #[.int .i64 a0, .string a2, .string a3, .string a4, .int .i64 a6, .int .i64 a7] 27)).alloc (by simp) (.cells #[.int .i64 a1, .string a2, .string a3, .string a5, .int .i64 a8, .int .i64 a9] 27))
    have HF := Lib.hid hF
    have HSZ : Hid (((tokText a2 a3).size : Int) = 13 + (a2.size : Int) + (a3.size : Int)) := by unfold Hid; rw [tokText_size]; omega
    have c2 : a2.size ≤ 2097152 := by omega
    have c3 : a3.size ≤ 2097152 := by omega
    clear hb2 hs1 hF w0 w1 w6 w7 w8 w9
    go_enter Tryf.func3, Tryf.ntmps3
    go_wp2_with (go_at_call 4; refine (g26_any _ _ _ _ _ _ _ _ _ _ (by unfold maxLen; omega) (by unfold maxLen; omega) (by unfold maxLen; omega) (by unfold maxLen; omega) _).mono ?_; rintro e w' ⟨rfl, rfl⟩)
    generalize hW : (w.alloc (.cells #[.int .i64 a0, .string a2, .string a3, .string a4, .int .i64 a6, .int .i64 a7] 27)).alloc (.cells #[.int .i64 a1, .string a2, .string a3, .string a5, .int .i64 a8, .int .i64 a9] 27) = W at *
    clear hW
    refine (tokStr_any F (by rw [HBE.out.tape]; exact HF.out) HB1.out c2 c3).mono ?_
    rintro e w1 ⟨rfl, hbe1⟩
    have HB1' := Lib.hid (blk_below HB1.out hbe1 (blk_lt HB1.out))
    have HB2' := Lib.hid (blk_below HB2.out hbe1 (blk_lt HB2.out))
    have HBE1 := Lib.hid (HBE.out.trans (hbe1.mono HBE.out.size))
    clear hbe1 HB1 HB2 HBE
    go_wp2_with fail
    refine (tokStr_any F (by rw [HBE1.out.tape]; exact HF.out) HB2'.out c2 c3).mono ?_
    rintro e w2 ⟨rfl, hbe2⟩
    have HB1 := Lib.hid (blk_below HB1'.out hbe2 (blk_lt HB1'.out))
    have HB2 := Lib.hid (blk_below HB2'.out hbe2 (blk_lt HB2'.out))
    have HBE2 := Lib.hid (HBE1.out.trans (hbe2.mono HBE1.out.size))
    clear hbe2 HB1' HB2' HBE1
    generalize tokText a2 a3 = tt at *
    have hsz : ((tt.size : Int) != 13 + (a2.size : Int) + (a3.size : Int)) = false := by rw [HSZ.out]; simp
    have p0 := blk_cell HB1.out 0 _ rfl
    have p1 := blk_cell HB1.out 1 _ rfl
    have p2 := blk_cell HB1.out 2 _ rfl
    have p3 := blk_cell HB1.out 3 _ rfl
    have p4 := blk_cell HB1.out 4 _ rfl
    have p5 := blk_cell HB1.out 5 _ rfl
    have q0 := blk_cell HB2.out 0 _ rfl
    have q1 := blk_cell HB2.out 1 _ rfl
    have q2 := blk_cell HB2.out 2 _ rfl
    have q3 := blk_cell HB2.out 3 _ rfl
    have q4 := blk_cell HB2.out 4 _ rfl
    have q5 := blk_cell HB2.out 5 _ rfl
    go_wp2_with fail
    go_ret
    exact ⟨rfl, HBE2.out⟩
  · have tb : G26 a2.size a3.size a4.size a5.size = false := decide_eq_false hb
    go_enter Tryf.func3, Tryf.ntmps3
    go_wp2_with (go_at_call 4; refine (g26_any _ _ _ _ _ _ _ _ _ _ (by unfold maxLen; omega) (by unfold maxLen; omega) (by unfold maxLen; omega) (by unfold maxLen; omega) _).mono ?_; rintro e w' ⟨rfl, rfl⟩)
    go_ret
    exact ⟨rfl, Below.refl _ _⟩

/-! ### THE ROW's STEP -/
set_option maxRecDepth 100000 in
theorem lifted (os : Os) (started : os.Started) (H : Type) (enc : TypeId × Value → H) :
    ReturnsInTold none {} Tryf.checked os 3 .any Input.okWide ((OpenSpec.ofChange Rows.fnTokenStringIgnoresTypeAndPositionSpec).preRow enc Tryf.prog Tryf.f3 [] false []) (fun G => ((OpenSpec.ofChange Rows.fnTokenStringIgnoresTypeAndPositionSpec).at G).post enc Tryf.prog Tryf.f3 false true false false) (aloneAtReturn Tryf.prog) nothingAlways := by
  refine returnsInTold_of_row (C := Tryf.checked) (s := OpenSpec.ofChange Rows.fnTokenStringIgnoresTypeAndPositionSpec) (by kernel_rfl) own started (by kernel_rfl) Tryf.func3
    (OpenSpec.witness_stopped (enc := enc) (C := Tryf.checked) false ⟨#[], #[.int .i64 0, .int .i64 0, .string ByteArray.empty, .string ByteArray.empty, .string ByteArray.empty, .string ByteArray.empty, .int .i64 0, .int .i64 0, .int .i64 0, .int .i64 0], []⟩ 8 (by kernel_rfl) (by kernel_rfl) (by kernel_rfl) (by kernel_rfl)) ?_
  intro G W base args ds gs before _ hF hval0 hW _ _ _ _ _
  have hval : ∀ (j : Nat) t v, Tryf.f3.params[j]? = some t → args[j]? = some v → Value.okWide Tryf.prog W .any base t v := hval0
  have hW' := hW
  obtain ⟨p, q, hA0, hV, rfl, hfz, hnd⟩ := hW
  have hA : DataW.TrodAll enc Tryf.prog W 0 (fun _ => true) true Tryf.f3.params.toList args.toList ds p := hA0
  rw [Tryf.params3] at hA hval
  obtain ⟨v0, vs0, d0, ds0, p0, q0, hargs, rfl, rfl, h0, r0⟩ := trodAll_cons hA
  obtain ⟨v1, vs1, d1, ds1, p1, q1, rfl, rfl, rfl, h1, r1⟩ := trodAll_cons r0
  obtain ⟨v2, vs2, d2, ds2, p2, q2, rfl, rfl, rfl, h2, r2⟩ := trodAll_cons r1
  obtain ⟨v3, vs3, d3, ds3, p3, q3, rfl, rfl, rfl, h3, r3⟩ := trodAll_cons r2
  obtain ⟨v4, vs4, d4, ds4, p4, q4, rfl, rfl, rfl, h4, r4⟩ := trodAll_cons r3
  obtain ⟨v5, vs5, d5, ds5, p5, q5, rfl, rfl, rfl, h5, r5⟩ := trodAll_cons r4
  obtain ⟨v6, vs6, d6, ds6, p6, q6, rfl, rfl, rfl, h6, r6⟩ := trodAll_cons r5
  obtain ⟨v7, vs7, d7, ds7, p7, q7, rfl, rfl, rfl, h7, r7⟩ := trodAll_cons r6
  obtain ⟨v8, vs8, d8, ds8, p8, q8, rfl, rfl, rfl, h8, r8⟩ := trodAll_cons r7
  obtain ⟨v9, vs9, d9, ds9, p9, q9, rfl, rfl, rfl, h9, r9⟩ := trodAll_cons r8
  obtain ⟨rfl, rfl, rfl⟩ := trodAll_nil r9
  obtain rfl : args = #[v0, v1, v2, v3, v4, v5, v6, v7, v8, v9] := by cases args; simp_all
  obtain ⟨rfl, rfl⟩ := trodVars_none hV
  obtain ⟨a0, rfl, rfl, rfl, w0⟩ := open_int Tryf.underlying3 (hval 0 3 v0 rfl rfl) h0
  obtain ⟨a1, rfl, rfl, rfl, w1⟩ := open_int Tryf.underlying3 (hval 1 3 v1 rfl rfl) h1
  obtain ⟨a2, rfl, rfl, rfl, w2⟩ := open_string Tryf.underlying9 (hval 2 9 v2 rfl rfl) h2
  obtain ⟨a3, rfl, rfl, rfl, w3⟩ := open_string Tryf.underlying9 (hval 3 9 v3 rfl rfl) h3
  obtain ⟨a4, rfl, rfl, rfl, w4⟩ := open_string Tryf.underlying9 (hval 4 9 v4 rfl rfl) h4
  obtain ⟨a5, rfl, rfl, rfl, w5⟩ := open_string Tryf.underlying9 (hval 5 9 v5 rfl rfl) h5
  obtain ⟨a6, rfl, rfl, rfl, w6⟩ := open_int Tryf.underlying3 (hval 6 3 v6 rfl rfl) h6
  obtain ⟨a7, rfl, rfl, rfl, w7⟩ := open_int Tryf.underlying3 (hval 7 3 v7 rfl rfl) h7
  obtain ⟨a8, rfl, rfl, rfl, w8⟩ := open_int Tryf.underlying3 (hval 8 3 v8 rfl rfl) h8
  obtain ⟨a9, rfl, rfl, rfl, w9⟩ := open_int Tryf.underlying3 (hval 9 3 v9 rfl rfl) h9
  clear hA0 hval0
  refine (walk G a0 a1 a2 a3 a4 a5 a6 a7 a8 a9 W hF w0 w1 w2 w3 w4 w5 w6 w7 w8 w9).mono fun e W' ⟨he, bel⟩ => ?_
  subst he
  exact ⟨_, rfl, _, _, _, [], _, [], hW', trodAll_mk1 (shut_bool Tryf.underlying4 _), (trodAll_cons_mk (shut_int Tryf.underlying3 w0) (trodAll_cons_mk (shut_int Tryf.underlying3 w1) (trodAll_cons_mk (shut_string Tryf.underlying9 w2) (trodAll_cons_mk (shut_string Tryf.underlying9 w3) (trodAll_cons_mk (shut_string Tryf.underlying9 w4) (trodAll_cons_mk (shut_string Tryf.underlying9 w5) (trodAll_cons_mk (shut_int Tryf.underlying3 w6) (trodAll_cons_mk (shut_int Tryf.underlying3 w7) (trodAll_cons_mk (shut_int Tryf.underlying3 w8) (trodAll_cons_mk (shut_int Tryf.underlying3 w9) trodAll_mk0)))))))))), rfl, bel.frame _, fun h => by cases h⟩

/-- ████ THE STATEMENT ████ -/
theorem proved : Rows.FnTokenStringIgnoresTypeAndPositionToldSaid :=
  Claim7.holds_of_told_any 3 Tryf.f3 "fmt.Sprintf" [] [] (true, "17ffd7917397f1d7c2dfeddd1b51e24cd7299420c910ec64417d0c78747902a5") false false (by kernel_rfl) rfl rfl rfl laidOut (by kernel_rfl) rfl ⟨rfl, rfl, rfl, rfl, rfl, rfl, rfl⟩ rfl rfl (by kernel_rfl) (by kernel_rfl) Tryf.func3 (by kernel_rfl)
    (of_decide_eq_true (by kernel_rfl)) (by unfold Func.isWrapper; first | (rw [if_pos (by decide +kernel)]; kernel_rfl) | (rw [if_neg (by decide +kernel)]; exact ⟨rfl, rfl⟩)) stops.symm rfl stopKnobs.symm (by kernel_rfl)
    (by kernel_rfl) (by kernel_rfl) (by kernel_rfl) (by kernel_rfl) (by kernel_rfl) (by kernel_rfl) (by kernel_rfl) (by kernel_rfl) (by kernel_rfl) rfl (by kernel_rfl) rfl rfl
    rfl rfl
    rfl (by kernel_rfl) (by kernel_rfl) (by kernel_rfl) (by decide) (by kernel_rfl)
    (OpenClaim.moreEntering_of (by kernel_rfl) (by kernel_rfl) (by kernel_rfl) (by kernel_rfl) (by kernel_rfl) (by kernel_rfl) (by kernel_rfl) (by kernel_rfl) (by kernel_rfl) (by kernel_rfl))
    ⟨_, WideRow.started_initial, quiet _⟩
    (fun os started _ H enc _ => lifted os started H enc)
#print axioms proved
end Go.Proofs.YtpadgbghgkcogaaFmt.fnTokenStringIgnoresTypeAndPosition
