/-
  The given statement on FnCharParsedSingleByteMatchesExactlyItself: for every input the law returns true and leaves its arguments as they were. No condition beyond the statement's own; no text of fmt is come to.
-/
import Derived.Test.YtkpnjhnopgbhlaaFmtHelp33b
import Derived.Laws.IdiomStrings
import Derived.Test.YtkpnjhnopgbhlaaFmtRows
import Derived.Test.YtkpnjhnopgbhlaaFmtCards
import Derived.WalkKit
import Derived.ProofKit
import Derived.OpenShut
import Derived.ShutString
import Derived.ChangeOld
import Derived.Below
import Derived.Stop.JoinedAt
import Derived.Stop.JoinedTold
import Derived.SevenToldRow
namespace Go.Proofs.YtkpnjhnopgbhlaaFmt.fnCharParsedSingleByteMatchesExactlyItself
open Go.ChangeShapes Go.WideShapes Go.ChangeAt Go.RowKit
open Go.ChangeMaps (open_string shut_string)
open Go.Extern.Stop Go.Stop Go.Extern
set_option linter.unusedVariables false
set_option linter.unusedSimpArgs false

theorem own : ownKnob Tryf.prog.godebug = none := by kernel_rfl
theorem laidOut : laidOutB Tryf.prog = true := by kernel_rfl
theorem stops : Tryf.pinned.checked.prog.stops = ["fmt.Sprintf, its operands' methods called"] := by kernel_rfl
theorem stopKnobs : Tryf.pinned.checked.prog.stopKnobs = [] := by kernel_rfl
theorem quiet (os : Os) : Stop.quiet Tryf.pinned.checked.prog os := by
  intro k hk
  rw [stopKnobs] at hk
  cases hk

set_option maxHeartbeats 1000000

/-! ### THE WALK -/
theorem walk (a0 : Int) (a1 : Int) (w : World) (w0 : (Lit.int .u8 a0).wf = true) (w1 : (Lit.int .i64 a1).wf = true) :
    Calls Tryf.prog 4 #[.int .u8 a0, .int .i64 a1] w fun e w' => e = .returned (.bool true) ∧ Below w.heap.size w w' := by
  obtain ⟨h0, h1⟩ := bounds_u8 w0
  obtain ⟨b8, hb8⟩ : ∃ b : UInt8, a0 = (b.toNat : Int) := ⟨UInt8.ofNat a0.toNat, by rw [UInt8.toNat_ofNat_of_lt' (by show a0.toNat < 256; omega)]; omega⟩
  rcases (show a0 = 37 ∨ a0 = 46 ∨ a0 = 91 ∨ ((a0 == 37) = false ∧ (a0 == 46) = false ∧ (a0 == 91) = false) by simp; omega) with rfl | rfl | rfl | ⟨n1, n2, n3⟩
  · clear hb8
    go_enter Tryf.func4, Tryf.ntmps4
    go_wp2_with fail
    go_ret
    exact ⟨rfl, Below.refl _ _⟩
  · clear hb8
    go_enter Tryf.func4, Tryf.ntmps4
    go_wp2_with fail
    go_ret
    exact ⟨rfl, Below.refl _ _⟩
  · clear hb8
    go_enter Tryf.func4, Tryf.ntmps4
    go_wp2_with fail
    go_ret
    exact ⟨rfl, Below.refl _ _⟩
  · have hcv : (convert 24 9 (.slice (some ⟨w.heap.size, 0, none⟩) 1 1)).run Tryf.prog (w.alloc (.cells #[.int .u8 a0] 5)) = .ok (.string ⟨#[b8]⟩) (w.alloc (.cells #[.int .u8 a0] 5)) := by
      have := run_convert_bytes_back (P := Tryf.prog) (w.alloc (.cells #[.int .u8 a0] 5)) 24 9 5 ⟨w.heap.size, 0, none⟩ 1 [b8] Tryf.underlying24 Tryf.underlying5 Tryf.underlying9 (fun j hj => by
        have hj0 : j = 0 := by simpa using hj
        subst hj0
        have := cell_one_new w (.int .u8 a0) 5 0 _ rfl
        rw [hb8] at this
        rw [hb8]
        exact this)
      exact this
    have HR : Hid (parseCls (bz ⟨#[b8]⟩) 0 = some (.el (.chr a0), 1)) := by
      have e : bz ⟨#[b8]⟩ = [a0] := by rw [hb8]; rfl
      unfold Hid
      rw [e]
      unfold parseCls
      rw [if_neg (by simp), show chr [a0] 0 = a0 from rfl, if_neg (by simpa using n1), if_neg (by simpa using n2), if_neg (by simpa using n3)]
    have HB := Lib.hid ((Below.refl w.heap.size w).alloc (Nat.le_refl _) (.cells #[.int .u8 a0] 5))
    clear hb8
    by_cases hq : a1 = a0
    · subst hq
      have HV : Hid ((Cl.el (.chr a1)).has a1 = true) := Lib.hid (by simp [Cl.has, El.has])
      go_enter Tryf.func4, Tryf.ntmps4
      go_wp2_with fail
      refine (zzParsed_is _ _ true _ (by simp [ByteArray.size]) HR HV).mono ?_
      rintro e w2 ⟨rfl, hb2⟩
      have HB2 := Lib.hid (HB.out.trans (hb2.mono HB.out.size))
      clear hb2 hcv
      go_wp2_with fail
      go_ret
      exact ⟨rfl, HB2.out⟩
    · have HV : Hid ((Cl.el (.chr a0)).has a1 = false) := Lib.hid (by simp [Cl.has, El.has]; omega)
      have hq' : (a1 == a0) = false := by simpa using hq
      clear hq
      go_enter Tryf.func4, Tryf.ntmps4
      go_wp2_with fail
      refine (zzParsed_is _ _ false _ (by simp [ByteArray.size]) HR HV).mono ?_
      rintro e w2 ⟨rfl, hb2⟩
      have HB2 := Lib.hid (HB.out.trans (hb2.mono HB.out.size))
      clear hb2 hcv
      go_wp2_with fail
      go_ret
      exact ⟨rfl, HB2.out⟩

/-! ### THE ROW's STEP -/
set_option maxRecDepth 100000 in
theorem lifted (os : Os) (started : os.Started) (H : Type) (enc : TypeId × Value → H) :
    ReturnsInTold none {} Tryf.checked os 4 .any Input.okWide ((OpenSpec.ofChange Rows.fnCharParsedSingleByteMatchesExactlyItselfSpec).preRow enc Tryf.prog Tryf.f4 [] false []) (fun G => ((OpenSpec.ofChange Rows.fnCharParsedSingleByteMatchesExactlyItselfSpec).at G).post enc Tryf.prog Tryf.f4 false true false false) (aloneAtReturn Tryf.prog) nothingAlways := by
  refine returnsInTold_of_row (C := Tryf.checked) (s := OpenSpec.ofChange Rows.fnCharParsedSingleByteMatchesExactlyItselfSpec) (by kernel_rfl) own started (by kernel_rfl) Tryf.func4
    (OpenSpec.witness_stopped (enc := enc) (C := Tryf.checked) false ⟨#[], #[.int .u8 0, .int .i64 0], []⟩ 8 (by kernel_rfl) (by kernel_rfl) (by kernel_rfl) (by kernel_rfl)) ?_
  intro G W base args ds gs before _ hF hval0 hW _ _ _ _ _
  have hval : ∀ (j : Nat) t v, Tryf.f4.params[j]? = some t → args[j]? = some v → Value.okWide Tryf.prog W .any base t v := hval0
  have hW' := hW
  obtain ⟨p, q, hA0, hV, rfl, hfz, hnd⟩ := hW
  have hA : DataW.TrodAll enc Tryf.prog W 0 (fun _ => true) true Tryf.f4.params.toList args.toList ds p := hA0
  rw [Tryf.params4] at hA hval
  obtain ⟨v0, vs0, d0, ds0, p0, q0, hargs, rfl, rfl, h0, r0⟩ := trodAll_cons hA
  obtain ⟨v1, vs1, d1, ds1, p1, q1, rfl, rfl, rfl, h1, r1⟩ := trodAll_cons r0
  obtain ⟨rfl, rfl, rfl⟩ := trodAll_nil r1
  obtain rfl : args = #[v0, v1] := by cases args; simp_all
  obtain ⟨rfl, rfl⟩ := trodVars_none hV
  obtain ⟨a0, rfl, rfl, rfl, w0⟩ := open_int Tryf.underlying5 (hval 0 5 v0 rfl rfl) h0
  obtain ⟨a1, rfl, rfl, rfl, w1⟩ := open_int Tryf.underlying3 (hval 1 3 v1 rfl rfl) h1
  clear hA0 hval0
  refine (walk a0 a1 W w0 w1).mono fun e W' ⟨he, bel⟩ => ?_
  subst he
  exact ⟨_, rfl, _, _, _, [], _, [], hW', trodAll_mk1 (shut_bool Tryf.underlying4 _), (trodAll_cons_mk (shut_int Tryf.underlying5 w0) (trodAll_cons_mk (shut_int Tryf.underlying3 w1) trodAll_mk0)), rfl, bel.frame _, fun h => by cases h⟩

/-- ████ THE STATEMENT ████ -/
theorem proved : Rows.FnCharParsedSingleByteMatchesExactlyItselfToldSaid :=
  Claim7.holds_of_told_any 4 Tryf.f4 "fmt.Sprintf, its operands' methods called" [] [] (true, "dc8c298758da9f0acbc2405bdcae572abe9242dbc14c78529e5d8cfd706ca48c") true false (by kernel_rfl) rfl rfl rfl laidOut (by kernel_rfl) rfl ⟨rfl, rfl, rfl, rfl, rfl, rfl, rfl⟩ rfl rfl (by kernel_rfl) (by kernel_rfl) Tryf.func4 (by kernel_rfl)
    (of_decide_eq_true (by kernel_rfl)) (by unfold Func.isWrapper; first | (rw [if_pos (by decide +kernel)]; kernel_rfl) | (rw [if_neg (by decide +kernel)]; exact ⟨rfl, rfl⟩)) stops.symm rfl stopKnobs.symm (by kernel_rfl)
    (by kernel_rfl) (by kernel_rfl) (by kernel_rfl) (by kernel_rfl) (by kernel_rfl) (by kernel_rfl) (by kernel_rfl) (by kernel_rfl) (by kernel_rfl) rfl (by kernel_rfl) rfl rfl
    rfl rfl
    rfl (by kernel_rfl) (by kernel_rfl) (by kernel_rfl) (by decide) (by kernel_rfl)
    (OpenClaim.moreEntering_of (by kernel_rfl) (by kernel_rfl) (by kernel_rfl) (by kernel_rfl) (by kernel_rfl) (by kernel_rfl) (by kernel_rfl) (by kernel_rfl) (by kernel_rfl) (by kernel_rfl))
    ⟨_, WideRow.started_initial, quiet _⟩
    (fun os started _ H enc _ => lifted os started H enc)
#print axioms proved
end Go.Proofs.YtkpnjhnopgbhlaaFmt.fnCharParsedSingleByteMatchesExactlyItself
