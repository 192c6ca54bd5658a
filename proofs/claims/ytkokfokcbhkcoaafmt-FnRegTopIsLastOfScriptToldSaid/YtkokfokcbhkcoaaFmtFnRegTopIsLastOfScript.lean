/-
  The given statement on FnRegTopIsLastOfScript: for every input the law returns true and leaves its arguments as they were. No condition beyond the statement's own; no text of fmt is come to.
-/
import Derived.Test.YtkokfokcbhkcoaaFmtHelp98
import Derived.Test.YtkokfokcbhkcoaaFmtRows
import Derived.Test.YtkokfokcbhkcoaaFmtCards
import Derived.WalkKit
import Derived.ProofKit
import Derived.OpenShut
import Derived.ShutString
import Derived.ChangeOld
import Derived.Below
import Derived.Stop.JoinedAt
import Derived.Stop.JoinedTold
import Derived.SevenToldRow
namespace Go.Proofs.YtkokfokcbhkcoaaFmt.fnRegTopIsLastOfScript
open Go.ChangeShapes Go.WideShapes Go.ChangeAt Go.RowKit
open Go.ChangeMaps (open_string shut_string)
open Go.Extern.Stop Go.Stop Go.Extern
set_option linter.unusedVariables false
set_option linter.unusedSimpArgs false

theorem own : ownKnob Tryf.prog.godebug = none := by kernel_rfl
theorem laidOut : laidOutB Tryf.prog = true := by kernel_rfl
theorem stops : Tryf.pinned.checked.prog.stops = ["fmt.Sprintf, its operands' methods called"] := by kernel_rfl
theorem stopKnobs : Tryf.pinned.checked.prog.stopKnobs = [] := by kernel_rfl
theorem quiet (os : Os) : Stop.quiet Tryf.pinned.checked.prog os := by
  intro k hk
  rw [stopKnobs] at hk
  cases hk

/-- What the walk is told of a slice of integers that came in. -/
def IsRow (k : IntKind) (w : World) (a : Option Addr) (len cap : Nat) (zs : List Int) : Prop :=
  (a = none ∧ len = 0 ∧ cap = 0 ∧ zs = []) ∨
  ∃ x, a = some x ∧ len ≤ cap ∧ cap ≤ maxLen ∧ zs.length = cap ∧ (∀ i, i < zs.length → w.cell? (x.add i) = some (.int k (zs.getD i 0))) ∧ ∀ n ∈ zs, (Lit.int k n).wf = true

/-- What 'IsRow' says, over the elements alone. -/
theorem isRow_told {k : IntKind} {w : World} {a : Option Addr} {len cap : Nat} {zs : List Int} (h : IsRow k w a len cap zs) :
    ∃ ys : List Int, ys.length = len ∧ RowInt k w a ys ∧ (a = none → ys.length = 0) ∧ len ≤ 9223372036854775807 ∧ (∀ n, n ∈ ys → (Lit.int k n).wf = true) := by
  rcases h with ⟨rfl, rfl, rfl, rfl⟩ | ⟨x, rfl, hl, hm, hz, hcell, hwz⟩
  · exact ⟨[], rfl, fun h0 => absurd h0 (Nat.lt_irrefl _), fun _ => rfl, by omega, fun n hn => by simp at hn⟩
  · refine ⟨zs.take len, by simp; omega, fun h0 => ?_, fun h0 => (by cases h0), by unfold maxLen at hm; omega, fun n hn => hwz n (List.mem_of_mem_take hn)⟩
    have h0' : 0 < len := by simp at h0; omega
    have hsp : x.spot = none := by simpa [Addr.add] using World.cell?_spot (hcell 0 (by omega))
    obtain ⟨b, off, spot⟩ := x
    simp only at hsp
    subst hsp
    refine ⟨b, off, rfl, fun i hi => ?_⟩
    have h1 := hcell i (by simp at hi; omega)
    rw [addr_add] at h1
    rw [h1]
    simp only [List.length_take] at hi
    rw [List.getD_eq_getElem?_getD, List.getD_eq_getElem?_getD, List.getElem?_take_of_lt (by omega)]

theorem rowAt {k : IntKind} {w : World} {a : Option Addr} {zs : List Int} (h : RowInt k w a zs) {i : Nat} (hi : i < zs.length) : ∃ b off, a = some ⟨b, off, none⟩ ∧ w.cell? ⟨b, off + i, none⟩ = some (.int k (zs.getD i 0)) := by
  obtain ⟨b, off, h1, h2⟩ := h (by omega)
  exact ⟨b, off, h1, h2 i hi⟩
theorem g98_any (a : Option Addr) (n cap : Nat) (hn : n ≤ 9223372036854775807) (w : World) : Calls Tryf.prog 8 #[.slice a n cap] w fun e w' => e = .returned (.bool (decide (n ≤ 1048576))) ∧ w = w' := by
  by_cases h : n ≤ 1048576
  all_goals
    go_enter Tryf.func8, Tryf.ntmps8
    go_wp2
    go_ret
    exact ⟨ret_bool (by simp; omega), rfl⟩

set_option maxHeartbeats 1000000
/-! ### THE WALK -/
theorem walk (a0 : Option Addr) (len0 cap0 : Nat) (z0 : List Int) (w : World) (w0 : IsRow .i64 w a0 len0 cap0 z0) :
    Calls Tryf.prog 4 #[.slice a0 len0 cap0] w fun e w' => e = .returned (.bool true) ∧ Below w.heap.size w w' := by
  obtain ⟨ys, rfl, hrow, hnil, hlen, -⟩ := isRow_told w0
  have HR := Lib.hid hrow
  clear w0 hrow hnil
  rcases (show 1048576 < ys.length ∨ (ys.length ≤ 1048576 ∧ 65536 < ys.length) ∨ ys.length ≤ 65536 by omega) with q | ⟨q, q'⟩ | q
  · have tb : decide (ys.length ≤ 1048576) = false := decide_eq_false (by omega)
    go_enter Tryf.func4, Tryf.ntmps4
    go_wp2_with (go_at_call 8; refine (g98_any _ _ _ hlen _).mono ?_; rintro e w' ⟨rfl, rfl⟩)
    go_ret
    exact ⟨rfl, Below.refl _ _⟩
  · have tb : decide (ys.length ≤ 1048576) = true := decide_eq_true q
    go_enter Tryf.func4, Tryf.ntmps4
    go_wp2_with (go_at_call 8; refine (g98_any _ _ _ hlen _).mono ?_; rintro e w' ⟨rfl, rfl⟩)
    go_ret
    exact ⟨rfl, Below.refl _ _⟩
  · have tb : decide (ys.length ≤ 1048576) = true := decide_eq_true (by omega)
    go_enter Tryf.func4, Tryf.ntmps4
    go_wp2_with (go_at_call 8; refine (g98_any _ _ _ hlen _).mono ?_; rintro e w' ⟨rfl, rfl⟩)
    go_loop [3] (fun i => ∃ k : Nat, k ≤ ys.length ∧ i = .int .i64 k ∧ Hid (∀ j, j < k → ys.getD j 0 ≤ 200)) (fun i => ys.length - (intOf i).toNat)
    case atStart => exact ⟨0, Nat.zero_le _, rfl, Lib.hid fun j hj => absurd hj (Nat.not_lt_zero _)⟩
    case round =>
      obtain ⟨k, hk, rfl, HA⟩ := hrel
      by_cases hlt : k < ys.length
      · obtain ⟨sb, so, rfl, hc⟩ := rowAt HR.out hlt
        obtain ⟨z, hz⟩ : ∃ z, ys.getD k 0 = z := ⟨_, rfl⟩
        have hki : (k : Int) < (ys.length : Int) := by omega
        rw [hz] at hc
        have HZ := Lib.hid hz
        clear hz
        rcases (show 200 < z ∨ z ≤ 200 by omega) with r | r
        · have t1 : decide (200 < z) = true := decide_eq_true r
          go_wp2_with fail
          go_ret
          exact ⟨rfl, Below.refl _ _⟩
        · have t1 : decide (200 < z) = false := decide_eq_false (by omega)
          go_wp2_with fail
          go_round
          case rel =>
            refine ⟨k + 1, by omega, by go_num, Lib.hid fun j hj => ?_⟩
            rcases (show j < k ∨ j = k by omega) with h | rfl
            · exact HA.out j h
            · rw [HZ.out]; exact r
          case measure => first | (simp [intOf]; done) | (simp [intOf]; omega)
      · obtain rfl : k = ys.length := by omega
        go_wp2_with fail
        refine (zzCtx_any _ w).mono ?_
        rintro e w1 ⟨b, rfl, h1, h2, h3⟩
        have H1 := Lib.hid h1
        have H2 := Lib.hid h2
        have H3 := Lib.hid h3
        clear h1 h2 h3
        go_wp2_with fail
        refine (regTop_any H3.out).mono ?_
        rintro e w' ⟨rfl, rfl⟩
        go_wp2_with fail
        go_loopw [5, 6] (fun v i wr => ∃ k : Nat, ∃ r : Int, k ≤ ys.length ∧ i = .int .i64 k ∧ v = .int .i64 r ∧ CtxAt wr b r ∧ Below w.heap.size w wr) (fun _ i _ => ys.length - (intOf i).toNat)
        case atStart => exact ⟨0, 0, Nat.zero_le _, rfl, rfl, H3.out, H2.out⟩
        case round =>
          obtain ⟨k, r, hk, rfl, rfl, hc, hb⟩ := hrel
          have HC := Lib.hid hc
          have HB := Lib.hid hb
          clear hc hb
          by_cases hlt : k < ys.length
          · obtain ⟨sb, so, rfl, hc⟩ := rowAt HR.out hlt
            obtain ⟨z, hz⟩ : ∃ z, ys.getD k 0 = z := ⟨_, rfl⟩
            have hz2 := HA.out k hlt
            have hki : (k : Int) < (ys.length : Int) := by omega
            rw [hz] at hc hz2
            have hsb := lt_of_cell hc
            have hne : sb ≠ b := by have := H1.out; simp only at hsb; omega
            have hcr : wr.cell? ⟨sb, so + k, none⟩ = some (.int .i64 z) := (HB.out.cell (p := ⟨sb, so + k, none⟩) hsb).trans hc
            have HN := Lib.hid hne
            have HCR := Lib.hid hcr
            clear hz hc hsb hne
            go_wp2_with fail
            refine (setTop_any HC.out hz2).mono ?_
            rintro e w2 ⟨rfl, h4, h5⟩
            have H4 := Lib.hid h4
            have H5 : Hid (Below w.heap.size w w2) := by subst h5; exact Lib.hid (HB.out.setCell (p := ⟨b, 6, none⟩) H1.out _)
            have hcr2 : w2.cell? ⟨sb, so + k, none⟩ = some (.int .i64 z) := by
              subst h5
              exact cell_one (g := b) (one_setCell (one_refl wr (some b)) (p := ⟨b, 6, none⟩) (.inl rfl) (.int .i64 z)) HCR.out HN.out
            clear h4 h5 hcr
            go_wp2_with fail
            go_roundw
            case rel => exact ⟨k + 1, z, by omega, by go_num, rfl, H4.out, H5.out⟩
            case measure => simp [intOf]; omega
          · go_wp2_with fail
            refine (regTop_any HC.out).mono ?_
            rintro e w' ⟨rfl, rfl⟩
            go_wp2_with fail
            go_ret
            exact ⟨ret_bool (by simp), HB.out⟩

/-! ### THE ROW's STEP -/
set_option maxRecDepth 100000 in
theorem lifted (os : Os) (started : os.Started) (H : Type) (enc : TypeId × Value → H) :
    ReturnsInTold none {} Tryf.checked os 4 .any Input.okWide ((OpenSpec.ofChange Rows.fnRegTopIsLastOfScriptSpec).preRow enc Tryf.prog Tryf.f4 [] false []) (fun G => ((OpenSpec.ofChange Rows.fnRegTopIsLastOfScriptSpec).at G).post enc Tryf.prog Tryf.f4 false true false false) (aloneAtReturn Tryf.prog) nothingAlways := by
  refine returnsInTold_of_row (C := Tryf.checked) (s := OpenSpec.ofChange Rows.fnRegTopIsLastOfScriptSpec) (by kernel_rfl) own started (by kernel_rfl) Tryf.func4
    (OpenSpec.witness_stopped (enc := enc) (C := Tryf.checked) false ⟨#[], #[.slice none 0 0], []⟩ 8 (by kernel_rfl) (by kernel_rfl) (by kernel_rfl) (by kernel_rfl)) ?_
  intro G W base args ds gs before _ hF hval0 hW _ _ _ _ _
  have hval : ∀ (j : Nat) t v, Tryf.f4.params[j]? = some t → args[j]? = some v → Value.okWide Tryf.prog W .any base t v := hval0
  have hW' := hW
  obtain ⟨p, q, hA0, hV, rfl, hfz, hnd⟩ := hW
  have hA : DataW.TrodAll enc Tryf.prog W 0 (fun _ => true) true Tryf.f4.params.toList args.toList ds p := hA0
  rw [Tryf.params4] at hA hval
  obtain ⟨v0, vs0, d0, ds0, p0, q0, hargs, rfl, rfl, h0, r0⟩ := trodAll_cons hA
  obtain ⟨rfl, rfl, rfl⟩ := trodAll_nil r0
  obtain rfl : args = #[v0] := by cases args; simp_all
  obtain ⟨rfl, rfl⟩ := trodVars_none hV
  obtain ⟨a0, len0, cap0, rfl⟩ := okWide_slice Tryf.underlying27 (hval 0 27 v0 rfl rfl)
  have k0 := h0
  have lt0 : ∀ x ∈ p0, x.block < W.heap.size := by obtain ⟨m, hm⟩ := k0; exact DataW.trod_lt m _ _ _ hm
  obtain ⟨z0, w0⟩ : ∃ zs, IsRow .i64 W a0 len0 cap0 zs := by
    obtain ⟨fuel, hf⟩ := h0
    rcases open_ints Tryf.underlying27 Tryf.underlying3 (by kernel_rfl) hf with ⟨hcs, _⟩ | ⟨x, l, c, zs, hcs, _, hl, hm, hz, _, hcell, hwz⟩
    · simp [Value.cells] at hcs
      obtain ⟨rfl, rfl, rfl⟩ := hcs
      exact ⟨[], .inl ⟨rfl, rfl, rfl, rfl⟩⟩
    · simp [Value.cells] at hcs
      obtain ⟨rfl, rfl, rfl⟩ := hcs
      exact ⟨zs, .inr ⟨_, rfl, hl, hm, by simpa using hz, hcell, hwz⟩⟩
  clear hA0 hval0
  refine (walk a0 len0 cap0 z0 W w0).mono fun e W' ⟨he, bel⟩ => ?_
  subst he
  exact ⟨_, rfl, _, _, _, [], _, [], hW', trodAll_mk1 (shut_bool Tryf.underlying4 _), (trodAll_cons_mk (Below.trod laidOut (by kernel_rfl) (of_decide_eq_true (by kernel_rfl)) k0 bel lt0) trodAll_mk0), rfl, bel.frame _, fun h => by cases h⟩

/-- ████ THE STATEMENT ████ -/
theorem proved : Rows.FnRegTopIsLastOfScriptToldSaid :=
  Claim7.holds_of_told_any 4 Tryf.f4 "fmt.Sprintf, its operands' methods called" [] [] (true, "f9c28abdccd73893e286fcf065f0c8771f1adf1304805d983703864e50893e3f") false false (by kernel_rfl) rfl rfl rfl laidOut (by kernel_rfl) rfl ⟨rfl, rfl, rfl, rfl, rfl, rfl, rfl⟩ rfl rfl (by kernel_rfl) (by kernel_rfl) Tryf.func4 (by kernel_rfl)
    (of_decide_eq_true (by kernel_rfl)) (by unfold Func.isWrapper; first | (rw [if_pos (by decide +kernel)]; kernel_rfl) | (rw [if_neg (by decide +kernel)]; exact ⟨rfl, rfl⟩)) stops.symm rfl stopKnobs.symm (by kernel_rfl)
    (by kernel_rfl) (by kernel_rfl) (by kernel_rfl) (by kernel_rfl) (by kernel_rfl) (by kernel_rfl) (by kernel_rfl) (by kernel_rfl) (by kernel_rfl) rfl (by kernel_rfl) rfl rfl
    rfl rfl
    rfl (by kernel_rfl) (by kernel_rfl) (by kernel_rfl) (by decide) (by kernel_rfl)
    (OpenClaim.moreEntering_of (by kernel_rfl) (by kernel_rfl) (by kernel_rfl) (by kernel_rfl) (by kernel_rfl) (by kernel_rfl) (by kernel_rfl) (by kernel_rfl) (by kernel_rfl) (by kernel_rfl))
    ⟨_, WideRow.started_initial, quiet _⟩
    (fun os started _ H enc _ => lifted os started H enc)
#print axioms proved
end Go.Proofs.YtkokfokcbhkcoaaFmt.fnRegTopIsLastOfScript
