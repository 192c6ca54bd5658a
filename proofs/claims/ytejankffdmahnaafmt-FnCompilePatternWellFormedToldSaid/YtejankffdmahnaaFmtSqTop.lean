/-
  The contract of n005_60's zzSeq: what it accepts, the parser makes whole. Its condition: the place lies in the pattern; the pattern has at most 2^22 bytes.
-/
import Derived.Test.YtejankffdmahnaaFmtSqLoop
namespace Go.Proofs.YtejankffdmahnaaFmt
open Go.RowKit
set_option linter.unusedVariables false
set_option linter.unusedSimpArgs false

theorem sq_results {tmps : Array Value} {w : World} {v6 v7 v8 v9 v10 : Value} (h6 : tmps[6]? = some v6) (h7 : tmps[7]? = some v7) (h8 : tmps[8]? = some v8) (h9 : tmps[9]? = some v9) (h10 : tmps[10]? = some v10) :
    (results Tryf.f10 tmps).run Tryf.prog w = .ok (.tuple #[v6, v7, v8, v9, v10]) w := by
  have g6 : tmps[6]?.getD undef = v6 := by rw [h6]; rfl
  have g7 : tmps[7]?.getD undef = v7 := by rw [h7]; rfl
  have g8 : tmps[8]?.getD undef = v8 := by rw [h8]; rfl
  have g9 : tmps[9]?.getD undef = v9 := by rw [h9]; rfl
  have g10 : tmps[10]?.getD undef = v10 := by rw [h10]; rfl
  simp [results, Tryf.results10, g6, g7, g8, g9, g10]
theorem act_is {a : Act} (h : a.defers = []) : a = { tmps := a.tmps, defers := [] } := by cases a; simp only [Act.mk.injEq, true_and]; exact h
theorem sq_fin {w w' : World} {s : ByteArray} {top must : Bool} {i c : Nat} {acc : List Pt} {tlq : Bool} (hc : s.size ≤ c) (hb : Below w.heap.size w w') (hcont : ∀ r, PRun (bz s) top c acc tlq r → PTop (bz s) top i must r) :
    SqFin w s top must i s.size true w' :=
  ⟨hb, Nat.le_refl _, fun _ => ⟨acc, tlq, _, hcont _ (.fin (by rw [bz_length]; exact hc)), fun h => absurd h (Nat.lt_irrefl _)⟩⟩
theorem sq_post {w w' : World} {s : ByteArray} {top must : Bool} {i j : Nat} {ao : Option Addr} {n cap : Nat} {hd tl ok : Bool} (h : SqFin w s top must i j ok w') : SqPost w s top i (.returned (.tuple #[.slice ao n cap, .int .i64 j, .bool hd, .bool tl, .bool ok])) w' :=
  ⟨ao, n, cap, j, hd, tl, ok, must, rfl, h⟩
set_option maxRecDepth 1000000 in
set_option maxHeartbeats 4000000 in
theorem seq_step {s : ByteArray} {w : World} {i : Nat} {top : Bool} (hs : s.size ≤ 4194304) (hi : i ≤ s.size) (ih : SIh s i) :
    Calls Tryf.prog 10 #[.string s, .int .i64 i, .bool top] w (SqPost w s top i) := by
  have IH := Lib.hid ih
  clear ih
  cases top with
  | false =>
    go_enter Tryf.func10, Tryf.ntmps10
    go_wp2_with fail
    refine wp_mono (sq_loop hs IH.out (w := w) (top := _) (must := false) (i := i) (c := i) ⟨rfl, rfl, rfl, rfl, rfl⟩ ⟨[], none, 0, _, false, int_is (by omega), rfl, rfl, rfl, KRow.nil _ _, Below.refl _ _, fun r h => .inr ⟨fun h => (by cases h), rfl, h⟩, by simp, by omega⟩) ?_
    intro e a' w' hq
    cases e with
    | ret =>
      obtain ⟨hdf, ao, n, cap, j, hd, tl, ok, h6, h7, h8, h9, h10, hfin⟩ := hq
      exact bodyPost_ret (sq_results h6 h7 h8 h9 h10) hdf (sq_post hfin)
    | exit id =>
      obtain ⟨rfl, hf, c', hc', acc, ao, cap, hd, tlq, e1, e12, e13, e14, hkr, hb, hcont, hle, hcb⟩ := hq
      have hfin := sq_fin hc' hb hcont
      obtain ⟨f, hfr⟩ := sframe_lit a'.tmps hf.sz hf.s0 e1 hf.s2 hf.s11 e12 e13 e14
      have ha := act_is hf.df
      rw [hfr] at ha
      subst ha
      have HF := Lib.hid hfin
      clear hfr hf hfin hkr hb hcont hle hcb e1 e12 e13 e14
      go_wp2_with fail
      exact bodyPost_ret (sq_results rfl rfl rfl rfl rfl) rfl (sq_post HF.out)
    | normal => exact hq.elim
    | goto n => exact hq.elim
    | panic ch => exact hq.elim
    | outgrown => exact hq.elim
  | true =>
    by_cases hlt : i < s.size
    · have hz := bz_chr s i hlt
      have hlt2 : (i : Int) < (s.size : Int) := by omega
      have tlt : decide ((i : Int) < (s.size : Int)) = true := decide_eq_true hlt2
      by_cases h94 : s[i].toNat = 94
      · have q94 : (s[i].toNat == 94) = true := by rw [beq_iff_eq]; exact h94
        have q94i : ((s[i].toNat : Int) == 94) = true := by rw [beq_iff_eq]; omega
        have HC : Hid (chr (bz s) i = 94) := Lib.hid (by rw [hz]; omega)
        have IH2 : Hid (SIh s (i + 1)) := Lib.hid (fun w c' h1 h2 => IH.out w c' (by omega) h2)
        clear hz h94
        go_enter Tryf.func10, Tryf.ntmps10
        go_wp2_with fail
        refine wp_mono (sq_loop hs IH2.out (w := w) (top := _) (must := true) (i := i) (c := i + 1) ⟨rfl, rfl, rfl, rfl, rfl⟩ ⟨[], none, 0, _, false, int_is (by omega), rfl, rfl, rfl, KRow.nil _ _, Below.refl _ _, fun r h => .inl ⟨rfl, HC.out, rfl, h⟩, by simp, by omega⟩) ?_
        intro e a' w' hq
        cases e with
        | ret =>
          obtain ⟨hdf, ao, n, cap, j, hd, tl, ok, h6, h7, h8, h9, h10, hfin⟩ := hq
          exact bodyPost_ret (sq_results h6 h7 h8 h9 h10) hdf (sq_post hfin)
        | exit id =>
          obtain ⟨rfl, hf, c', hc', acc, ao, cap, hd, tlq, e1, e12, e13, e14, hkr, hb, hcont, hle, hcb⟩ := hq
          have hfin := sq_fin hc' hb hcont
          obtain ⟨f, hfr⟩ := sframe_lit a'.tmps hf.sz hf.s0 e1 hf.s2 hf.s11 e12 e13 e14
          have ha := act_is hf.df
          rw [hfr] at ha
          subst ha
          have HF := Lib.hid hfin
          clear hfr hf hfin hkr hb hcont hle hcb e1 e12 e13 e14
          go_wp2_with fail
          exact bodyPost_ret (sq_results rfl rfl rfl rfl rfl) rfl (sq_post HF.out)
        | normal => exact hq.elim
        | goto n => exact hq.elim
        | panic ch => exact hq.elim
        | outgrown => exact hq.elim
      · have q94 : (s[i].toNat == 94) = false := by rw [beq_eq_false_iff_ne]; exact h94
        have q94i : ((s[i].toNat : Int) == 94) = false := by rw [beq_eq_false_iff_ne]; omega
        have HC : Hid (¬ chr (bz s) i = 94) := Lib.hid (by rw [hz]; omega)
        clear hz h94
        go_enter Tryf.func10, Tryf.ntmps10
        go_wp2_with fail
        refine wp_mono (sq_loop hs IH.out (w := w) (top := _) (must := false) (i := i) (c := i) ⟨rfl, rfl, rfl, rfl, rfl⟩ ⟨[], none, 0, _, false, int_is (by omega), rfl, rfl, rfl, KRow.nil _ _, Below.refl _ _, fun r h => .inr ⟨fun _ => beq_eq_false_iff_ne.2 HC.out, rfl, h⟩, by simp, by omega⟩) ?_
        intro e a' w' hq
        cases e with
        | ret =>
          obtain ⟨hdf, ao, n, cap, j, hd, tl, ok, h6, h7, h8, h9, h10, hfin⟩ := hq
          exact bodyPost_ret (sq_results h6 h7 h8 h9 h10) hdf (sq_post hfin)
        | exit id =>
          obtain ⟨rfl, hf, c', hc', acc, ao, cap, hd, tlq, e1, e12, e13, e14, hkr, hb, hcont, hle, hcb⟩ := hq
          have hfin := sq_fin hc' hb hcont
          obtain ⟨f, hfr⟩ := sframe_lit a'.tmps hf.sz hf.s0 e1 hf.s2 hf.s11 e12 e13 e14
          have ha := act_is hf.df
          rw [hfr] at ha
          subst ha
          have HF := Lib.hid hfin
          clear hfr hf hfin hkr hb hcont hle hcb e1 e12 e13 e14
          go_wp2_with fail
          exact bodyPost_ret (sq_results rfl rfl rfl rfl rfl) rfl (sq_post HF.out)
        | normal => exact hq.elim
        | goto n => exact hq.elim
        | panic ch => exact hq.elim
        | outgrown => exact hq.elim
    · have tlt : decide ((i : Int) < (s.size : Int)) = false := decide_eq_false (by omega)
      have HC : Hid (¬ chr (bz s) i = 94) := Lib.hid (by unfold chr; rw [if_neg (by rw [bz_length]; exact hlt)]; decide)
      go_enter Tryf.func10, Tryf.ntmps10
      go_wp2_with fail
      refine wp_mono (sq_loop hs IH.out (w := w) (top := _) (must := false) (i := i) (c := i) ⟨rfl, rfl, rfl, rfl, rfl⟩ ⟨[], none, 0, _, false, int_is (by omega), rfl, rfl, rfl, KRow.nil _ _, Below.refl _ _, fun r h => .inr ⟨fun _ => beq_eq_false_iff_ne.2 HC.out, rfl, h⟩, by simp, by omega⟩) ?_
      intro e a' w' hq
      cases e with
      | ret =>
        obtain ⟨hdf, ao, n, cap, j, hd, tl, ok, h6, h7, h8, h9, h10, hfin⟩ := hq
        exact bodyPost_ret (sq_results h6 h7 h8 h9 h10) hdf (sq_post hfin)
      | exit id =>
        obtain ⟨rfl, hf, c', hc', acc, ao, cap, hd, tlq, e1, e12, e13, e14, hkr, hb, hcont, hle, hcb⟩ := hq
        have hfin := sq_fin hc' hb hcont
        obtain ⟨f, hfr⟩ := sframe_lit a'.tmps hf.sz hf.s0 e1 hf.s2 hf.s11 e12 e13 e14
        have ha := act_is hf.df
        rw [hfr] at ha
        subst ha
        have HF := Lib.hid hfin
        clear hfr hf hfin hkr hb hcont hle hcb e1 e12 e13 e14
        go_wp2_with fail
        exact bodyPost_ret (sq_results rfl rfl rfl rfl rfl) rfl (sq_post HF.out)
      | normal => exact hq.elim
      | goto n => exact hq.elim
      | panic ch => exact hq.elim
      | outgrown => exact hq.elim
theorem seq_ind {s : ByteArray} (hs : s.size ≤ 4194304) : ∀ (n : Nat) (w : World) (i : Nat) (top : Bool), s.size - i ≤ n → i ≤ s.size → Calls Tryf.prog 10 #[.string s, .int .i64 i, .bool top] w (SqPost w s top i) := by
  intro n
  induction n with
  | zero => intro w i top h1 h2; exact seq_step hs h2 (fun w' c' h3 h4 => by omega)
  | succ n ih => intro w i top h1 h2; exact seq_step hs h2 (fun w' c' h3 h4 => ih w' c' false (by omega) h4)
theorem seq_any {s : ByteArray} (hs : s.size ≤ 4194304) (w : World) {i : Nat} (hi : i ≤ s.size) (top : Bool) : Calls Tryf.prog 10 #[.string s, .int .i64 i, .bool top] w (SqPost w s top i) :=
  seq_ind hs (s.size - i) w i top (Nat.le_refl _) hi
end Go.Proofs.YtejankffdmahnaaFmt
