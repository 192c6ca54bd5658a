/-
  The given statement on FnParseClassSetNegation: for every input the law returns true and leaves its arguments as they were. No condition beyond the statement's own; no text of fmt is come to.
-/
import Derived.Test.YtejankffdmahnaaFmtHelp60
import Derived.Laws.IdiomStrings
import Derived.Test.YtejankffdmahnaaFmtRows
import Derived.Test.YtejankffdmahnaaFmtCards
import Derived.WalkKit
import Derived.ProofKit
import Derived.OpenShut
import Derived.ShutString
import Derived.ChangeOld
import Derived.Below
import Derived.Stop.JoinedAt
import Derived.Stop.JoinedTold
import Derived.SevenToldRow
namespace Go.Proofs.YtejankffdmahnaaFmt.fnParseClassSetNegation
open Go.ChangeShapes Go.WideShapes Go.ChangeAt Go.RowKit
open Go.ChangeMaps (open_string shut_string)
open Go.Extern.Stop Go.Stop Go.Extern
set_option linter.unusedVariables false
set_option linter.unusedSimpArgs false

theorem own : ownKnob Tryf.prog.godebug = none := by kernel_rfl
theorem laidOut : laidOutB Tryf.prog = true := by kernel_rfl
theorem stops : Tryf.pinned.checked.prog.stops = ["fmt.Sprintf, its operands' methods called"] := by kernel_rfl
theorem stopKnobs : Tryf.pinned.checked.prog.stopKnobs = [] := by kernel_rfl
theorem quiet (os : Os) : Stop.quiet Tryf.pinned.checked.prog os := by
  intro k hk
  rw [stopKnobs] at hk
  cases hk

theorem guard_any (s : ByteArray) (hs : s.size ≤ 9223372036854775807) (w : World) : Calls Tryf.prog 5 #[.string s] w fun e w' => e = .returned (.bool (decide (s.size ≤ 1048576))) ∧ w = w' := by
  by_cases h : s.size ≤ 1048576
  all_goals
    go_enter Tryf.func5, Tryf.ntmps5
    go_wp2
    go_ret
    exact ⟨ret_bool (by simp; omega), rfl⟩
theorem ret_true {w : World} {a b : World} (h : Below w.heap.size w a) (e : a = b) : Below w.heap.size w b := e ▸ h
theorem there_new (w : World) : (w.alloc (.cells zT 23)).there w.heap.size 0 256 := (T256.new w).there
theorem bools_one {cs : Array Value} (h : ∀ v ∈ cs, ∃ x : Bool, v = .bool x) : cs.all (·.oneCell') = true := Array.all_eq_true_iff_forall_mem.2 fun v hv => by
  obtain ⟨x, rfl⟩ := h v hv
  rfl

set_option maxHeartbeats 4000000
set_option maxRecDepth 100000
/-! ### THE WALK -/
theorem walk (a0 : ByteArray) (w : World) (w0 : a0.size ≤ maxLen) :
    Calls Tryf.prog 3 #[.string a0] w fun e w' => e = .returned (.bool true) ∧ Below w.heap.size w w' := by
  unfold maxLen at w0
  rcases (show 1048576 < a0.size ∨ (a0.size ≤ 1048576 ∧ 4096 < a0.size) ∨ a0.size = 0 ∨ (0 < a0.size ∧ a0.size ≤ 4096) by omega) with q | ⟨q, q'⟩ | q | ⟨q0, q⟩
  · have tb : decide (a0.size ≤ 1048576) = false := decide_eq_false (by omega)
    go_enter Tryf.func3, Tryf.ntmps3
    go_wp2_with (go_at_call 5; refine (guard_any _ (by omega) _).mono ?_; rintro e w' ⟨rfl, rfl⟩)
    go_ret
    exact ⟨rfl, Below.refl _ _⟩
  · have tb : decide (a0.size ≤ 1048576) = true := decide_eq_true q
    go_enter Tryf.func3, Tryf.ntmps3
    go_wp2_with (go_at_call 5; refine (guard_any _ (by omega) _).mono ?_; rintro e w' ⟨rfl, rfl⟩)
    go_ret
    exact ⟨rfl, Below.refl _ _⟩
  · have tb : decide (a0.size ≤ 1048576) = true := decide_eq_true (by omega)
    go_enter Tryf.func3, Tryf.ntmps3
    go_wp2_with (go_at_call 5; refine (guard_any _ (by omega) _).mono ?_; rintro e w' ⟨rfl, rfl⟩)
    go_ret
    exact ⟨rfl, Below.refl _ _⟩
  · have tb : decide (a0.size ≤ 1048576) = true := decide_eq_true (by omega)
    have tz : ((a0.size : Int) == 0) = false := beq_eq_false_iff_ne.2 (by omega)
    cases h94 : ((a0[0].toNat : Int) == 94) with
    | true =>
      go_enter Tryf.func3, Tryf.ntmps3
      go_wp2_with (go_at_call 5; refine (guard_any _ (by omega) _).mono ?_; rintro e w' ⟨rfl, rfl⟩)
      go_ret
      exact ⟨rfl, Below.refl _ _⟩
    | false =>
      have hst : stS a0 0 = 0 := by unfold stS; rw [negB_lt q0, h94]; rfl
      have hch : chr (bz a0) 0 ≠ 94 := by rw [bz_chr a0 0 q0]; simpa using h94
      obtain ⟨r, hr⟩ : ∃ r, accSet (bz a0) 0 false = r := ⟨_, rfl⟩
      have HZ : Hid (∀ W : World, Calls Tryf.prog 6 #[.string a0, .int .i64 0] W (ZPost W r)) := Lib.hid (fun W => by
        have := zset_any a0 0 W (by omega) (by omega)
        rw [hst, hr] at this
        exact this)
      have HCH := Lib.hid hch
      have HR := Lib.hid hr
      clear hst hch hr
      cases r with
      | none =>
        go_enter Tryf.func3, Tryf.ntmps3
        go_wp2_with (go_at_call 5; refine (guard_any _ (by omega) _).mono ?_; rintro e w' ⟨rfl, rfl⟩)
        refine (HZ.out _).mono ?_
        rintro e w1 ⟨cs, h256, hbool, hb, rfl⟩
        have HB := Lib.hid hb
        have H2 := Lib.hid h256
        have HBO := Lib.hid (bools_one hbool)
        clear hb h256 hbool
        go_wp2_with (refine wpList_store_mid rfl 23 (.tmp 3) (.tmp 25) rfl w1.heap.size 0 cs rfl rfl (by rw [H2.out]; exact there_new w1) (by rw [H2.out]; kernel_rfl) HBO.out ?_)
        go_ret
        exact ⟨rfl, below_sets HB.out.size _ _ _ _ (HB.out.alloc HB.out.size _)⟩
      | some c =>
        obtain ⟨l, hp1, hp2⟩ := set_two HCH.out HR.out
        obtain ⟨hq1, hq2, hq3⟩ := pos_two HR.out
        rw [bz_length] at hq1 hq2 hq3
        obtain ⟨P, hP⟩ : ∃ P, posOf a0.size c = P := ⟨_, rfl⟩
        rw [hP] at hq1 hq2 hq3
        have hbn : bz (⟨#[94]⟩ ++ a0) = 94 :: bz a0 := by rw [bz_append]; rfl
        have hsn : (⟨#[94]⟩ ++ a0 : ByteArray).size = a0.size + 1 := by rw [ByteArray.size_append]; show 1 + a0.size = _; omega
        have HE1 : Hid (∀ W : World, Calls Tryf.prog 7 #[.string (⟨#[94]⟩ ++ a0)] W fun e w' => e = .returned (.int .i64 (P + 1)) ∧ Below W.heap.size W w') := Lib.hid (fun W => by
          have := ends_any (⟨#[94]⟩ ++ a0) W (by rw [hsn]; omega) (by rw [hsn]; omega) (R := (.set true l, c + 1)) (by rw [hbn]; exact hp2)
          rw [hsn, hq1] at this
          exact this)
        have HE0 : Hid (∀ W : World, Calls Tryf.prog 7 #[.string a0] W fun e w' => e = .returned (.int .i64 P) ∧ Below W.heap.size W w') := Lib.hid (fun W => by
          have := ends_any a0 W (by omega) q0 (R := (.set false l, c)) hp1
          rw [hP] at this
          exact this)
        have HM1 : Hid (∀ (W : World) (ch : Int), Calls Tryf.prog 8 #[.string (⟨#[94]⟩ ++ a0), .int .i64 ch] W fun e w' => e = .returned (.bool (!(Cl.set false l).has ch)) ∧ Below W.heap.size W w') := Lib.hid (fun W ch => by
          have := mats_any (⟨#[94]⟩ ++ a0) ch W (by rw [hsn]; omega) (by rw [hsn]; omega) (R := (.set true l, c + 1)) (by rw [hbn]; exact hp2)
          have e : (Cl.set true l).has ch = !(Cl.set false l).has ch := by simp only [Cl.has]; split <;> rfl
          rw [e] at this
          exact this)
        have HM0 : Hid (∀ (W : World) (ch : Int), Calls Tryf.prog 8 #[.string a0, .int .i64 ch] W fun e w' => e = .returned (.bool ((Cl.set false l).has ch)) ∧ Below W.heap.size W w') := Lib.hid (fun W ch => mats_any a0 ch W (by omega) q0 hp1)
        clear hp1 hp2 hq1 hP hbn hsn
        go_enter Tryf.func3, Tryf.ntmps3
        go_wp2_with (go_at_call 5; refine (guard_any _ (by omega) _).mono ?_; rintro e w' ⟨rfl, rfl⟩)
        refine (HZ.out _).mono ?_
        rintro e w1 ⟨cs, h256, hbool, hb, rfl⟩
        have HB := Lib.hid hb
        have H2 := Lib.hid h256
        have HBO := Lib.hid (bools_one hbool)
        clear hb h256 hbool
        go_wp2_with (refine wpList_store_mid rfl 23 (.tmp 3) (.tmp 25) rfl w1.heap.size 0 cs rfl rfl (by rw [H2.out]; exact there_new w1) (by rw [H2.out]; kernel_rfl) HBO.out ?_)
        have HB2 := Lib.hid (below_sets HB.out.size cs.toList 0 _ _ (HB.out.alloc HB.out.size (.cells zT 23)))
        generalize (w1.alloc (.cells zT 23)).setCells w1.heap.size 0 cs.toList = w2 at *
        refine (HE1.out _).mono ?_
        rintro e w3 ⟨rfl, hb⟩
        have HB3 := Lib.hid (HB2.out.trans (hb.mono HB2.out.size))
        clear hb
        go_wp2_with fail
        refine (HE0.out _).mono ?_
        rintro e w4 ⟨rfl, hb⟩
        have HB4 := Lib.hid (HB3.out.trans (hb.mono HB3.out.size))
        clear hb HB2 HB3
        go_wp2_with fail
        go_loopg [7] 256 (fun k v wr => ∃ ch : Nat, k = 256 - ch ∧ v = .int .i64 ch ∧ ch ≤ 256 ∧ Hid (Below w.heap.size w wr))
        case atStart => exact ⟨0, rfl, rfl, by omega, HB4⟩
        case round =>
          obtain ⟨ch, rfl, rfl, hch, HX⟩ := hrel
          by_cases hc : ch < 256
          · obtain ⟨x, hx⟩ : ∃ x, (Cl.set false l).has (ch : Int) = x := ⟨_, rfl⟩
            have H1 := Lib.hid (fun W => HM1.out W (ch : Int))
            have H0 := Lib.hid (fun W => HM0.out W (ch : Int))
            rw [hx] at H1 H0
            clear hx HB4
            go_wp2_with fail
            refine (H1.out _).mono ?_
            rintro e w5 ⟨rfl, hb⟩
            have HB5 := Lib.hid (HX.out.trans (hb.mono HX.out.size))
            clear hb
            go_wp2_with fail
            refine (H0.out _).mono ?_
            rintro e w6 ⟨rfl, hb⟩
            have HB6 := Lib.hid (HB5.out.trans (hb.mono HB5.out.size))
            clear hb
            cases x
            all_goals
              go_wp2_with fail
              go_roundg (256 - (ch + 1))
              case measure => omega
              case rel => exact ⟨ch + 1, rfl, rfl, by omega, HB6⟩
          · obtain rfl : ch = 256 := by omega
            go_wp2_with fail
            go_ret
            exact ⟨rfl, HX.out⟩

/-! ### THE ROW's STEP -/
set_option maxRecDepth 100000 in
theorem lifted (os : Os) (started : os.Started) (H : Type) (enc : TypeId × Value → H) :
    ReturnsInTold none {} Tryf.checked os 3 .any Input.okWide ((OpenSpec.ofChange Rows.fnParseClassSetNegationSpec).preRow enc Tryf.prog Tryf.f3 [] false []) (fun G => ((OpenSpec.ofChange Rows.fnParseClassSetNegationSpec).at G).post enc Tryf.prog Tryf.f3 false true false false) (aloneAtReturn Tryf.prog) nothingAlways := by
  refine returnsInTold_of_row (C := Tryf.checked) (s := OpenSpec.ofChange Rows.fnParseClassSetNegationSpec) (by kernel_rfl) own started (by kernel_rfl) Tryf.func3
    (OpenSpec.witness_stopped (enc := enc) (C := Tryf.checked) false ⟨#[], #[.string ByteArray.empty], []⟩ 8 (by kernel_rfl) (by kernel_rfl) (by kernel_rfl) (by kernel_rfl)) ?_
  intro G W base args ds gs before _ hF hval0 hW _ _ _ _ _
  have hval : ∀ (j : Nat) t v, Tryf.f3.params[j]? = some t → args[j]? = some v → Value.okWide Tryf.prog W .any base t v := hval0
  have hW' := hW
  obtain ⟨p, q, hA0, hV, rfl, hfz, hnd⟩ := hW
  have hA : DataW.TrodAll enc Tryf.prog W 0 (fun _ => true) true Tryf.f3.params.toList args.toList ds p := hA0
  rw [Tryf.params3] at hA hval
  obtain ⟨v0, vs0, d0, ds0, p0, q0, hargs, rfl, rfl, h0, r0⟩ := trodAll_cons hA
  obtain ⟨rfl, rfl, rfl⟩ := trodAll_nil r0
  obtain rfl : args = #[v0] := by cases args; simp_all
  obtain ⟨rfl, rfl⟩ := trodVars_none hV
  obtain ⟨a0, rfl, rfl, rfl, w0⟩ := open_string Tryf.underlying9 (hval 0 9 v0 rfl rfl) h0
  clear hA0 hval0
  refine (walk a0 W w0).mono fun e W' ⟨he, bel⟩ => ?_
  subst he
  exact ⟨_, rfl, _, _, _, [], _, [], hW', trodAll_mk1 (shut_bool Tryf.underlying4 _), (trodAll_cons_mk (shut_string Tryf.underlying9 w0) trodAll_mk0), rfl, bel.frame _, fun h => by cases h⟩

/-- ████ THE STATEMENT ████ -/
theorem proved : Rows.FnParseClassSetNegationToldSaid :=
  Claim7.holds_of_told_any 3 Tryf.f3 "fmt.Sprintf, its operands' methods called" [] [] (true, "ed63ea41d276ed258e54fe7750a566e5c9755df799dd98f6a690861adf1c9bb0") true false (by kernel_rfl) rfl rfl rfl laidOut (by kernel_rfl) rfl ⟨rfl, rfl, rfl, rfl, rfl, rfl, rfl⟩ rfl rfl (by kernel_rfl) (by kernel_rfl) Tryf.func3 (by kernel_rfl)
    (of_decide_eq_true (by kernel_rfl)) (by unfold Func.isWrapper; first | (rw [if_pos (by decide +kernel)]; kernel_rfl) | (rw [if_neg (by decide +kernel)]; exact ⟨rfl, rfl⟩)) stops.symm rfl stopKnobs.symm (by kernel_rfl)
    (by kernel_rfl) (by kernel_rfl) (by kernel_rfl) (by kernel_rfl) (by kernel_rfl) (by kernel_rfl) (by kernel_rfl) (by kernel_rfl) (by kernel_rfl) rfl (by kernel_rfl) rfl rfl
    rfl rfl
    rfl (by kernel_rfl) (by kernel_rfl) (by kernel_rfl) (by decide) (by kernel_rfl)
    (OpenClaim.moreEntering_of (by kernel_rfl) (by kernel_rfl) (by kernel_rfl) (by kernel_rfl) (by kernel_rfl) (by kernel_rfl) (by kernel_rfl) (by kernel_rfl) (by kernel_rfl) (by kernel_rfl))
    ⟨_, WideRow.started_initial, quiet _⟩
    (fun os started _ H enc _ => lifted os started H enc)
#print axioms proved
end Go.Proofs.YtejankffdmahnaaFmt.fnParseClassSetNegation
