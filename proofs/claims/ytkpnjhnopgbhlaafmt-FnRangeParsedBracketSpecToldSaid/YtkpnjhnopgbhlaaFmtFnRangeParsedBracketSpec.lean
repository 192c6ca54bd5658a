/-
  The given statement on FnRangeParsedBracketSpec: for every input the law returns true and leaves its arguments as they were. No condition beyond the statement's own; no text of fmt is come to.
-/
import Derived.Test.YtkpnjhnopgbhlaaFmtHelp33b
import Derived.Laws.IdiomStrings
import Derived.Test.YtkpnjhnopgbhlaaFmtRows
import Derived.Test.YtkpnjhnopgbhlaaFmtCards
import Derived.WalkKit
import Derived.ProofKit
import Derived.OpenShut
import Derived.ShutString
import Derived.ChangeOld
import Derived.Below
import Derived.Stop.JoinedAt
import Derived.Stop.JoinedTold
import Derived.SevenToldRow
namespace Go.Proofs.YtkpnjhnopgbhlaaFmt.fnRangeParsedBracketSpec
open Go.ChangeShapes Go.WideShapes Go.ChangeAt Go.RowKit
open Go.ChangeMaps (open_string shut_string)
open Go.Extern.Stop Go.Stop Go.Extern
set_option linter.unusedVariables false
set_option linter.unusedSimpArgs false

theorem own : ownKnob Tryf.prog.godebug = none := by kernel_rfl
theorem laidOut : laidOutB Tryf.prog = true := by kernel_rfl
theorem stops : Tryf.pinned.checked.prog.stops = ["fmt.Sprintf, its operands' methods called"] := by kernel_rfl
theorem stopKnobs : Tryf.pinned.checked.prog.stopKnobs = [] := by kernel_rfl
theorem quiet (os : Os) : Stop.quiet Tryf.pinned.checked.prog os := by
  intro k hk
  rw [stopKnobs] at hk
  cases hk

theorem cv3 (w : World) (x y : Int) (hx : 0 ≤ x ∧ x ≤ 255) (hy : 0 ≤ y ∧ y ≤ 255) : ∃ sb : ByteArray, bz sb = [x, 45, y] ∧ sb.size = 3 ∧ ∀ c : Nat, (convert 24 9 (.slice (some ⟨w.heap.size, 0, none⟩) 3 c)).run Tryf.prog (w.alloc (.cells #[.int .u8 x, .int .u8 45, .int .u8 y] 5)) = .ok (.string sb) (w.alloc (.cells #[.int .u8 x, .int .u8 45, .int .u8 y] 5)) := by
  obtain ⟨x8, rfl⟩ : ∃ b : UInt8, x = (b.toNat : Int) := ⟨UInt8.ofNat x.toNat, by rw [UInt8.toNat_ofNat_of_lt' (by show x.toNat < 256; omega)]; omega⟩
  obtain ⟨y8, rfl⟩ : ∃ b : UInt8, y = (b.toNat : Int) := ⟨UInt8.ofNat y.toNat, by rw [UInt8.toNat_ofNat_of_lt' (by show y.toNat < 256; omega)]; omega⟩
  refine ⟨⟨#[x8, 45, y8]⟩, rfl, rfl, fun c => ?_⟩
  have hb := blk_new w (.cells #[.int .u8 (x8.toNat : Int), .int .u8 45, .int .u8 (y8.toNat : Int)] 5)
  exact run_convert_bytes_back (P := Tryf.prog) _ 24 9 5 ⟨w.heap.size, 0, none⟩ c [x8, 45, y8] Tryf.underlying24 Tryf.underlying5 Tryf.underlying9 (fun j hj => by
    rw [addr_add, Nat.zero_add]
    have hj3 : j < 3 := by simpa using hj
    rcases (show j = 0 ∨ j = 1 ∨ j = 2 by omega) with rfl | rfl | rfl
    · exact blk_cell hb 0 _ rfl
    · exact blk_cell hb 1 _ rfl
    · exact blk_cell hb 2 _ rfl)

set_option maxHeartbeats 4000000
/-! ### THE WALK -/
theorem walk (a0 : Int) (a1 : Int) (a2 : Bool) (a3 : Int) (w : World) (w0 : (Lit.int .u8 a0).wf = true) (w1 : (Lit.int .u8 a1).wf = true) (w3 : (Lit.int .i64 a3).wf = true) :
    Calls Tryf.prog 5 #[.int .u8 a0, .int .u8 a1, .bool a2, .int .i64 a3] w fun e w' => e = .returned (.bool true) ∧ Below w.heap.size w w' := by
  have hx := bounds_u8 w0
  have hy := bounds_u8 w1
  cases hax : alnB a0 with
  | false =>
    have HX := Lib.hid hax
    clear hax
    go_enter Tryf.func5, Tryf.ntmps5
    go_wp2_with (go_at_call 10; refine (alnum_is _ _ hx HX _).mono ?_; rintro e w' ⟨rfl, rfl⟩)
    go_ret
    exact ⟨rfl, Below.refl _ _⟩
  | true =>
    have HX := Lib.hid hax
    cases hay : alnB a1 with
    | false =>
      have HY := Lib.hid hay
      clear hax hay
      go_enter Tryf.func5, Tryf.ntmps5
      go_wp2_with fail
      refine (alnum_is _ _ hx HX _).mono ?_
      rintro e w' ⟨rfl, rfl⟩
      go_wp2_with fail
      refine (alnum_is _ _ hy HY _).mono ?_
      rintro e w' ⟨rfl, rfl⟩
      go_wp2_with fail
      go_ret
      exact ⟨rfl, Below.refl _ _⟩
    | true =>
      have HY := Lib.hid hay
      obtain ⟨sb, hbz, hsz, hcv⟩ := cv3 w a0 a1 hx hy
      have hszl : sb.size ≤ 3 := by omega
      have HBZ := Lib.hid hbz
      have HB := Lib.hid ((Below.refl w.heap.size w).alloc (Nat.le_refl _) (.cells #[.int .u8 a0, .int .u8 45, .int .u8 a1] 5))
      have HPR := Lib.hid (parse_range a0 a1 hax hay)
      have hx0 := hx.1
      have hx1 := hx.2
      have hy0 := hy.1
      have hy1 := hy.2
      have HXX := Lib.hid hx
      have HYY := Lib.hid hy
      clear hax hay hbz hsz hx hy
      cases a2 with
      | true =>
        have HR : Hid (parseCls (bz (⟨#[91, 94]⟩ ++ sb ++ ⟨#[93]⟩)) 0 = some (.set true [.rng (.chr a0) (.chr a1)], 6)) := by
          have := HPR.out true
          unfold Hid
          rw [bz_append, bz_append, HBZ.out]
          exact this
        have hbs : ∀ c, c = [(91 : Int), 94] ++ [a0, 45, a1] ++ [93] → True := fun _ _ => trivial
        clear hbs HPR
        rcases (show (a0 ≤ a3 ∧ a3 ≤ a1) ∨ a3 < a0 ∨ (a0 ≤ a3 ∧ a1 < a3) by omega) with ⟨c1, c2⟩ | c1 | ⟨c1, c2⟩
        · have HV : Hid ((Cl.set true [.rng (.chr a0) (.chr a1)]).has a3 = false) := by
            unfold Hid
            have : (decide (a0 ≤ a3) && decide (a3 ≤ a1)) = true := by simp; omega
            simp [Cl.has, El.has, this]
          have d1 : decide (a0 ≤ a3) = true := by simp; omega
          have d2 : decide (a3 ≤ a1) = true := by simp; omega
          go_enter Tryf.func5, Tryf.ntmps5
          go_wp2_with fail
          refine (alnum_is _ _ HXX.out HX _).mono ?_
          rintro e w' ⟨rfl, rfl⟩
          go_wp2_with fail
          refine (alnum_is _ _ HYY.out HY _).mono ?_
          rintro e w' ⟨rfl, rfl⟩
          go_wp2_with fail
          refine (zzParsed_is _ _ false _ (sz_wrap (by decide) (by decide) (by omega)) HR HV).mono ?_
          rintro e w2 ⟨rfl, hb2⟩
          have HB2 := Lib.hid (HB.out.trans (hb2.mono HB.out.size))
          clear hb2 hcv
          go_wp2_with fail
          go_ret
          exact ⟨ret_bool (by first | rfl | (simp; omega)), HB2.out⟩
        · have HV : Hid ((Cl.set true [.rng (.chr a0) (.chr a1)]).has a3 = true) := by
            unfold Hid
            have : (decide (a0 ≤ a3) && decide (a3 ≤ a1)) = false := by simp; omega
            simp [Cl.has, El.has, this]
          have d1 : decide (a0 ≤ a3) = false := by simp; omega
          go_enter Tryf.func5, Tryf.ntmps5
          go_wp2_with fail
          refine (alnum_is _ _ HXX.out HX _).mono ?_
          rintro e w' ⟨rfl, rfl⟩
          go_wp2_with fail
          refine (alnum_is _ _ HYY.out HY _).mono ?_
          rintro e w' ⟨rfl, rfl⟩
          go_wp2_with fail
          refine (zzParsed_is _ _ true _ (sz_wrap (by decide) (by decide) (by omega)) HR HV).mono ?_
          rintro e w2 ⟨rfl, hb2⟩
          have HB2 := Lib.hid (HB.out.trans (hb2.mono HB.out.size))
          clear hb2 hcv
          go_wp2_with fail
          go_ret
          exact ⟨ret_bool (by first | rfl | (simp; omega)), HB2.out⟩
        · have HV : Hid ((Cl.set true [.rng (.chr a0) (.chr a1)]).has a3 = true) := by
            unfold Hid
            have : (decide (a0 ≤ a3) && decide (a3 ≤ a1)) = false := by simp; omega
            simp [Cl.has, El.has, this]
          have d1 : decide (a0 ≤ a3) = true := by simp; omega
          have d2 : decide (a3 ≤ a1) = false := by simp; omega
          go_enter Tryf.func5, Tryf.ntmps5
          go_wp2_with fail
          refine (alnum_is _ _ HXX.out HX _).mono ?_
          rintro e w' ⟨rfl, rfl⟩
          go_wp2_with fail
          refine (alnum_is _ _ HYY.out HY _).mono ?_
          rintro e w' ⟨rfl, rfl⟩
          go_wp2_with fail
          refine (zzParsed_is _ _ true _ (sz_wrap (by decide) (by decide) (by omega)) HR HV).mono ?_
          rintro e w2 ⟨rfl, hb2⟩
          have HB2 := Lib.hid (HB.out.trans (hb2.mono HB.out.size))
          clear hb2 hcv
          go_wp2_with fail
          go_ret
          exact ⟨ret_bool (by first | rfl | (simp; omega)), HB2.out⟩
      | false =>
        have HR : Hid (parseCls (bz (⟨#[91]⟩ ++ sb ++ ⟨#[93]⟩)) 0 = some (.set false [.rng (.chr a0) (.chr a1)], 5)) := by
          have := HPR.out false
          unfold Hid
          rw [bz_append, bz_append, HBZ.out]
          exact this
        clear HPR
        rcases (show (a0 ≤ a3 ∧ a3 ≤ a1) ∨ a3 < a0 ∨ (a0 ≤ a3 ∧ a1 < a3) by omega) with ⟨c1, c2⟩ | c1 | ⟨c1, c2⟩
        · have HV : Hid ((Cl.set false [.rng (.chr a0) (.chr a1)]).has a3 = true) := by
            unfold Hid
            have : (decide (a0 ≤ a3) && decide (a3 ≤ a1)) = true := by simp; omega
            simp [Cl.has, El.has, this]
          have d1 : decide (a0 ≤ a3) = true := by simp; omega
          have d2 : decide (a3 ≤ a1) = true := by simp; omega
          go_enter Tryf.func5, Tryf.ntmps5
          go_wp2_with fail
          refine (alnum_is _ _ HXX.out HX _).mono ?_
          rintro e w' ⟨rfl, rfl⟩
          go_wp2_with fail
          refine (alnum_is _ _ HYY.out HY _).mono ?_
          rintro e w' ⟨rfl, rfl⟩
          go_wp2_with fail
          refine (zzParsed_is _ _ true _ (sz_wrap (by decide) (by decide) (by omega)) HR HV).mono ?_
          rintro e w2 ⟨rfl, hb2⟩
          have HB2 := Lib.hid (HB.out.trans (hb2.mono HB.out.size))
          clear hb2 hcv
          go_wp2_with fail
          go_ret
          exact ⟨ret_bool (by first | rfl | (simp; omega)), HB2.out⟩
        · have HV : Hid ((Cl.set false [.rng (.chr a0) (.chr a1)]).has a3 = false) := by
            unfold Hid
            have : (decide (a0 ≤ a3) && decide (a3 ≤ a1)) = false := by simp; omega
            simp [Cl.has, El.has, this]
          have d1 : decide (a0 ≤ a3) = false := by simp; omega
          go_enter Tryf.func5, Tryf.ntmps5
          go_wp2_with fail
          refine (alnum_is _ _ HXX.out HX _).mono ?_
          rintro e w' ⟨rfl, rfl⟩
          go_wp2_with fail
          refine (alnum_is _ _ HYY.out HY _).mono ?_
          rintro e w' ⟨rfl, rfl⟩
          go_wp2_with fail
          refine (zzParsed_is _ _ false _ (sz_wrap (by decide) (by decide) (by omega)) HR HV).mono ?_
          rintro e w2 ⟨rfl, hb2⟩
          have HB2 := Lib.hid (HB.out.trans (hb2.mono HB.out.size))
          clear hb2 hcv
          go_wp2_with fail
          go_ret
          exact ⟨ret_bool (by first | rfl | (simp; omega)), HB2.out⟩
        · have HV : Hid ((Cl.set false [.rng (.chr a0) (.chr a1)]).has a3 = false) := by
            unfold Hid
            have : (decide (a0 ≤ a3) && decide (a3 ≤ a1)) = false := by simp; omega
            simp [Cl.has, El.has, this]
          have d1 : decide (a0 ≤ a3) = true := by simp; omega
          have d2 : decide (a3 ≤ a1) = false := by simp; omega
          go_enter Tryf.func5, Tryf.ntmps5
          go_wp2_with fail
          refine (alnum_is _ _ HXX.out HX _).mono ?_
          rintro e w' ⟨rfl, rfl⟩
          go_wp2_with fail
          refine (alnum_is _ _ HYY.out HY _).mono ?_
          rintro e w' ⟨rfl, rfl⟩
          go_wp2_with fail
          refine (zzParsed_is _ _ false _ (sz_wrap (by decide) (by decide) (by omega)) HR HV).mono ?_
          rintro e w2 ⟨rfl, hb2⟩
          have HB2 := Lib.hid (HB.out.trans (hb2.mono HB.out.size))
          clear hb2 hcv
          go_wp2_with fail
          go_ret
          exact ⟨ret_bool (by first | rfl | (simp; omega)), HB2.out⟩

/-! ### THE ROW's STEP -/
set_option maxRecDepth 100000 in
theorem lifted (os : Os) (started : os.Started) (H : Type) (enc : TypeId × Value → H) :
    ReturnsInTold none {} Tryf.checked os 5 .any Input.okWide ((OpenSpec.ofChange Rows.fnRangeParsedBracketSpecSpec).preRow enc Tryf.prog Tryf.f5 [] false []) (fun G => ((OpenSpec.ofChange Rows.fnRangeParsedBracketSpecSpec).at G).post enc Tryf.prog Tryf.f5 false true false false) (aloneAtReturn Tryf.prog) nothingAlways := by
  refine returnsInTold_of_row (C := Tryf.checked) (s := OpenSpec.ofChange Rows.fnRangeParsedBracketSpecSpec) (by kernel_rfl) own started (by kernel_rfl) Tryf.func5
    (OpenSpec.witness_stopped (enc := enc) (C := Tryf.checked) false ⟨#[], #[.int .u8 0, .int .u8 0, .bool false, .int .i64 0], []⟩ 8 (by kernel_rfl) (by kernel_rfl) (by kernel_rfl) (by kernel_rfl)) ?_
  intro G W base args ds gs before _ hF hval0 hW _ _ _ _ _
  have hval : ∀ (j : Nat) t v, Tryf.f5.params[j]? = some t → args[j]? = some v → Value.okWide Tryf.prog W .any base t v := hval0
  have hW' := hW
  obtain ⟨p, q, hA0, hV, rfl, hfz, hnd⟩ := hW
  have hA : DataW.TrodAll enc Tryf.prog W 0 (fun _ => true) true Tryf.f5.params.toList args.toList ds p := hA0
  rw [Tryf.params5] at hA hval
  obtain ⟨v0, vs0, d0, ds0, p0, q0, hargs, rfl, rfl, h0, r0⟩ := trodAll_cons hA
  obtain ⟨v1, vs1, d1, ds1, p1, q1, rfl, rfl, rfl, h1, r1⟩ := trodAll_cons r0
  obtain ⟨v2, vs2, d2, ds2, p2, q2, rfl, rfl, rfl, h2, r2⟩ := trodAll_cons r1
  obtain ⟨v3, vs3, d3, ds3, p3, q3, rfl, rfl, rfl, h3, r3⟩ := trodAll_cons r2
  obtain ⟨rfl, rfl, rfl⟩ := trodAll_nil r3
  obtain rfl : args = #[v0, v1, v2, v3] := by cases args; simp_all
  obtain ⟨rfl, rfl⟩ := trodVars_none hV
  obtain ⟨a0, rfl, rfl, rfl, w0⟩ := open_int Tryf.underlying5 (hval 0 5 v0 rfl rfl) h0
  obtain ⟨a1, rfl, rfl, rfl, w1⟩ := open_int Tryf.underlying5 (hval 1 5 v1 rfl rfl) h1
  obtain ⟨a2, rfl, rfl, rfl⟩ := open_bool Tryf.underlying4 (hval 2 4 v2 rfl rfl) h2
  obtain ⟨a3, rfl, rfl, rfl, w3⟩ := open_int Tryf.underlying3 (hval 3 3 v3 rfl rfl) h3
  clear hA0 hval0
  refine (walk a0 a1 a2 a3 W w0 w1 w3).mono fun e W' ⟨he, bel⟩ => ?_
  subst he
  exact ⟨_, rfl, _, _, _, [], _, [], hW', trodAll_mk1 (shut_bool Tryf.underlying4 _), (trodAll_cons_mk (shut_int Tryf.underlying5 w0) (trodAll_cons_mk (shut_int Tryf.underlying5 w1) (trodAll_cons_mk (shut_bool Tryf.underlying4 _) (trodAll_cons_mk (shut_int Tryf.underlying3 w3) trodAll_mk0)))), rfl, bel.frame _, fun h => by cases h⟩

/-- ████ THE STATEMENT ████ -/
theorem proved : Rows.FnRangeParsedBracketSpecToldSaid :=
  Claim7.holds_of_told_any 5 Tryf.f5 "fmt.Sprintf, its operands' methods called" [] [] (true, "dc8c298758da9f0acbc2405bdcae572abe9242dbc14c78529e5d8cfd706ca48c") true false (by kernel_rfl) rfl rfl rfl laidOut (by kernel_rfl) rfl ⟨rfl, rfl, rfl, rfl, rfl, rfl, rfl⟩ rfl rfl (by kernel_rfl) (by kernel_rfl) Tryf.func5 (by kernel_rfl)
    (of_decide_eq_true (by kernel_rfl)) (by unfold Func.isWrapper; first | (rw [if_pos (by decide +kernel)]; kernel_rfl) | (rw [if_neg (by decide +kernel)]; exact ⟨rfl, rfl⟩)) stops.symm rfl stopKnobs.symm (by kernel_rfl)
    (by kernel_rfl) (by kernel_rfl) (by kernel_rfl) (by kernel_rfl) (by kernel_rfl) (by kernel_rfl) (by kernel_rfl) (by kernel_rfl) (by kernel_rfl) rfl (by kernel_rfl) rfl rfl
    rfl rfl
    rfl (by kernel_rfl) (by kernel_rfl) (by kernel_rfl) (by decide) (by kernel_rfl)
    (OpenClaim.moreEntering_of (by kernel_rfl) (by kernel_rfl) (by kernel_rfl) (by kernel_rfl) (by kernel_rfl) (by kernel_rfl) (by kernel_rfl) (by kernel_rfl) (by kernel_rfl) (by kernel_rfl))
    ⟨_, WideRow.started_initial, quiet _⟩
    (fun os started _ H enc _ => lifted os started H enc)
#print axioms proved
end Go.Proofs.YtkpnjhnopgbhlaaFmt.fnRangeParsedBracketSpec
