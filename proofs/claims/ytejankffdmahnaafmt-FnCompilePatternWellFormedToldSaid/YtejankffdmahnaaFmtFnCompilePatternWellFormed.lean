/-
  The given statement on FnCompilePatternWellFormed: for every input the law returns true and leaves its arguments as they were. No condition beyond the statement's own; no text of fmt is come to.
-/
import Derived.Test.YtejankffdmahnaaFmtLawAll
import Derived.Test.YtejankffdmahnaaFmtSqTop
import Derived.Laws.IdiomStrings
import Derived.BigGuardPart
import Derived.BigQuiet
import Derived.Test.YtejankffdmahnaaFmtRows
import Derived.Test.YtejankffdmahnaaFmtCards
import Derived.WalkKit
import Derived.ProofKit
import Derived.OpenShut
import Derived.ShutString
import Derived.ChangeOld
import Derived.Below
import Derived.Stop.JoinedAt
import Derived.Stop.JoinedTold
import Derived.SevenToldRow
namespace Go.Proofs.YtejankffdmahnaaFmt.fnCompilePatternWellFormed
open Go.ChangeShapes Go.WideShapes Go.ChangeAt Go.RowKit
open Go.ChangeMaps (open_string shut_string)
open Go.Extern.Stop Go.Stop Go.Extern
set_option linter.unusedVariables false
set_option linter.unusedSimpArgs false

theorem own : ownKnob Tryf.prog.godebug = none := by kernel_rfl
theorem laidOut : laidOutB Tryf.prog = true := by kernel_rfl
theorem stops : Tryf.pinned.checked.prog.stops = ["fmt.Sprintf, its operands' methods called"] := by kernel_rfl
theorem stopKnobs : Tryf.pinned.checked.prog.stopKnobs = [] := by kernel_rfl
theorem quiet (os : Os) : Stop.quiet Tryf.pinned.checked.prog os := by
  intro k hk
  rw [stopKnobs] at hk
  cases hk

theorem guard_any (s : ByteArray) (hs : s.size ≤ 9223372036854775807) (w : World) : Calls Tryf.prog 9 #[.string s] w fun e w' => e = .returned (.bool (decide (s.size ≤ 1048576))) ∧ w = w' := by
  by_cases h : s.size ≤ 1048576
  all_goals
    go_enter Tryf.func9, Tryf.ntmps9
    go_wp2
    go_ret
    exact ⟨ret_bool (by simp; omega), rfl⟩
theorem prun_cf {zs : List Int} {top : Bool} {c : Nat} {acc : List Pt} {q : Bool} {r : PR} (h : PRun zs top c acc q r) : ∀ {l : List Pt} {tl : Bool} {cf : Nat}, r = .ok l tl cf → cf ≤ zs.length + 1 := by
  induction h with
  | fin h1 => intro l tl cf e; cases e; omega
  | close h1 => intro l tl cf e; cases e; have := chr_lt (zs := zs) (c := _) (by rw [h1]; omega); omega
  | capt _ _ _ _ _ _ ih2 => intro l tl cf e; exact ih2 e
  | num _ _ _ _ ih => intro l tl cf e; exact ih e
  | brace _ _ _ ih => intro l tl cf e; exact ih e
  | esc _ _ _ _ ih => intro l tl cf e; exact ih e
  | cls _ _ _ ih => intro l tl cf e; exact ih e
  | posc _ _ _ ih => intro l tl cf e; exact ih e
  | quant _ _ ih => intro l tl cf e; exact ih e
  | quantLit _ _ _ ih => intro l tl cf e; exact ih e
  | tail _ _ _ ih => intro l tl cf e; exact ih e
  | dollar _ _ _ ih => intro l tl cf e; exact ih e
  | lit _ _ _ ih => intro l tl cf e; exact ih e
  | _ => intro l tl cf e; cases e
theorem ptop_cf {zs : List Int} {must tl : Bool} {l : List Pt} {cf : Nat} (h : PTop zs true 0 must (.ok l tl cf)) : cf ≤ zs.length + 1 := by
  rcases h with ⟨_, _, _, hr⟩ | ⟨_, _, hr⟩
  · exact prun_cf hr rfl
  · exact prun_cf hr rfl
theorem int1_info : (Tryf.prog.info? 3).map (fun i => (i.zero, i.size, i.bytes)) = some (some (.int .i64 0), 1, 8) := by kernel_rfl
theorem bool1_info : (Tryf.prog.info? 4).map (fun i => (i.zero, i.size, i.bytes)) = some (some (.bool false), 1, 1) := by kernel_rfl
theorem make_ints (M : Nat) (hM : M ≤ 200000) (z : Int) (hz : (M : Int) = z) (W : World) : (Instr.makeSlice 40 (.int .i64 z) (.int .i64 z)).run Tryf.prog W = .ok (.slice (some ⟨W.heap.size, 0, none⟩) M M) (W.alloc (.cells (madeCells #[.int .i64 0] M) 3)) := by
  subst hz
  exact run_make_row' (P := Tryf.prog) 40 3 (.int .i64 0) 8 Tryf.underlying40 int1_info rfl .i64 .i64 M (by omega) (by omega) W
theorem make_bools (M : Nat) (hM : M ≤ 200000) (z : Int) (hz : (M : Int) = z) (W : World) : (Instr.makeSlice 41 (.int .i64 z) (.int .i64 z)).run Tryf.prog W = .ok (.slice (some ⟨W.heap.size, 0, none⟩) M M) (W.alloc (.cells (madeCells #[.bool false] M) 4)) := by
  subst hz
  exact run_make_row' (P := Tryf.prog) 41 4 (.bool false) 1 Tryf.underlying41 bool1_info rfl .i64 .i64 M (by omega) (by omega) W
/-- The three rows as they are made. -/
theorem rows_start (w4 : World) (J : List Ins) (M : Nat) : LRows w4 (((w4.alloc (.cells (madeCells #[.int .i64 0] M) 3)).alloc (.cells (madeCells #[.int .i64 0] M) 3)).alloc (.cells (madeCells #[.bool false] M) 4)) J w4.heap.size M w4.heap.size (w4.heap.size + 1) (w4.heap.size + 1 + 1) 0 := by
  have s1 : (w4.alloc (.cells (madeCells #[.int .i64 0] M) 3)).heap.size = w4.heap.size + 1 := by simp
  have s2 : ((w4.alloc (.cells (madeCells #[.int .i64 0] M) 3)).alloc (.cells (madeCells #[.int .i64 0] M) 3)).heap.size = w4.heap.size + 1 + 1 := by simp
  have r1 := ((World.rowIs_made w4 (.int .i64 0) M 3).alloc (.cells (madeCells #[.int .i64 0] M) 3)).alloc (.cells (madeCells #[.bool false] M) 4)
  have r2 := (World.rowIs_made (w4.alloc (.cells (madeCells #[.int .i64 0] M) 3)) (.int .i64 0) M 3).alloc (.cells (madeCells #[.bool false] M) 4)
  have r3 := World.rowIs_made ((w4.alloc (.cells (madeCells #[.int .i64 0] M) 3)).alloc (.cells (madeCells #[.int .i64 0] M) 3)) (.bool false) M 4
  rw [s1] at r2
  rw [s2] at r3
  exact ⟨r1.congr fun j _ => by simp [cntL], r2.congr fun j _ => by simp [atF], r3.congr fun j _ => by simp [hasP], (((Below.refl _ _).alloc (Nat.le_refl _) _).alloc (by rw [s1]; omega) _).alloc (by rw [s2]; omega) _⟩
theorem lrel_mk {w4 wr : World} {J : List Ins} {B M g1 g2 g3 k : Nat} {a : Act} (h1 : a.tmps[22]? = some (.int .i64 (topF J k : Int))) (h2 : a.tmps[23]? = some (.int .i64 (k : Int))) (h : LRows w4 wr J B M g1 g2 g3 k) : LRel w4 J B M g1 g2 g3 wr k a := ⟨h1, h2, h⟩

set_option maxHeartbeats 4000000
set_option maxRecDepth 1000000
/-! ### THE WALK -/
theorem walk (a0 : ByteArray) (w : World) (w0 : a0.size ≤ maxLen) :
    Calls Tryf.prog 4 #[.string a0] w fun e w' => e = .returned (.bool true) ∧ Below w.heap.size w w' := by
  unfold maxLen at w0
  rcases (show 1048576 < a0.size ∨ (a0.size ≤ 1048576 ∧ 4096 < a0.size) ∨ a0.size ≤ 4096 by omega) with q | ⟨q, q'⟩ | q
  · have tb : decide (a0.size ≤ 1048576) = false := decide_eq_false (by omega)
    go_enter Tryf.func4, Tryf.ntmps4
    go_wp2_with (go_at_call 9; refine (guard_any _ (by omega) _).mono ?_; rintro e w' ⟨rfl, rfl⟩)
    go_ret
    exact ⟨rfl, Below.refl _ _⟩
  · have tb : decide (a0.size ≤ 1048576) = true := decide_eq_true q
    go_enter Tryf.func4, Tryf.ntmps4
    go_wp2_with (go_at_call 9; refine (guard_any _ (by omega) _).mono ?_; rintro e w' ⟨rfl, rfl⟩)
    go_ret
    exact ⟨rfl, Below.refl _ _⟩
  · have tb : decide (a0.size ≤ 1048576) = true := decide_eq_true (by omega)
    have HSQ : Hid (Calls Tryf.prog 10 #[.string a0, .int .i64 0, .bool true] w (SqPost w a0 true 0)) := Lib.hid (seq_any (by omega) w (Nat.zero_le _) true)
    go_enter Tryf.func4, Tryf.ntmps4
    go_wp2_with (go_at_call 9; refine (guard_any _ (by omega) _).mono ?_; rintro e w' ⟨rfl, rfl⟩)
    refine HSQ.out.mono ?_
    rintro e w1 ⟨ao, n, cap, j, hd, tl, ok, must, rfl, hb1, hj, hok⟩
    have HB1 := Lib.hid hb1
    clear hb1 HSQ
    cases ok with
    | false =>
      go_wp2_with fail
      go_ret
      exact ⟨rfl, HB1.out⟩
    | true =>
      obtain ⟨l, tl2, cf, hp, -⟩ := hok rfl
      obtain ⟨I', k', hr, hl, hk⟩ := top_crun hp (ptop_cf hp)
      rw [bz_length] at hl hk
      have hfine := prog_fine tl2 hr
      have hjl : (progOf tl2 I').length ≤ 40000 := by unfold progOf; split <;> simp <;> omega
      have HCP : Hid (Calls Tryf.prog 11 #[.string a0] w1 (ProgPost w1 (progOf tl2 I'))) := Lib.hid (comp60_any a0 w1 (by omega) hp hr (by omega) (by omega))
      clear hok hp hr hl hk hj
      generalize progOf tl2 I' = J at *
      have HF := Lib.hid hfine
      have h3 := hfine.len
      obtain ⟨L2, hL2⟩ : ∃ L2, J.length = L2 + 2 := ⟨J.length - 2, by omega⟩
      have hLa : J.length ≤ L2 + 2 := by omega
      have hLb : L2 + 2 ≤ J.length := by omega
      have HL2 := Lib.hid hL2
      clear hfine hL2
      go_wp2_with fail
      refine HCP.out.mono ?_
      rintro e w2 hpp
      obtain ⟨ig, icap, rfl, hprog, hig, hb2, hmx⟩ := progAt_of (by omega) hpp
      have HB2 := Lib.hid (HB1.out.trans (hb2.mono HB1.out.size))
      have HPA := Lib.hid hprog
      clear hpp hb2 hprog HCP HB1
      obtain ⟨v0, hv0, c0, c1, c2, c3⟩ := HPA.out 0 _ HF.out.first
      obtain ⟨v1, hv1, d0, d1, d2, d3⟩ := HPA.out (L2 + 1) .mat (by have := HF.out.last; rw [HL2.out] at this; exact this)
      obtain ⟨v2, hv2, e0, e1, e2, e3⟩ := HPA.out L2 (.save 1) (by have := HF.out.last2; rw [HL2.out] at this; exact this)
      obtain rfl : v0 = .nilIface := by
        rcases hv0 with h | ⟨⟨c, hc⟩, _⟩
        · exact h
        · cases hc
      obtain rfl : v1 = .nilIface := by
        rcases hv1 with h | ⟨⟨c, hc⟩, _⟩
        · exact h
        · cases hc
      obtain rfl : v2 = .nilIface := by
        rcases hv2 with h | ⟨⟨c, hc⟩, _⟩
        · exact h
        · cases hc
      simp only [insF, Nat.zero_mul, Nat.zero_add] at c0 c1 c2 c3 d0 d1 d2 d3 e0 e1 e2 e3
      have t3 : decide ((J.length : Int) < 3) = false := decide_eq_false (by omega)
      have x1 : (J.length : Int) - 1 = ((L2 + 1 : Nat) : Int) := by omega
      have x2 : (J.length : Int) - 2 = (L2 : Int) := by omega
      have y0 : (0 : Int) < (J.length : Int) := by omega
      have y1 : ((L2 + 1 : Nat) : Int) < (J.length : Int) := by omega
      have y2 : (L2 : Int) < (J.length : Int) := by omega
      have HD : Hid ((∀ (W : World), Below w2.heap.size w2 W → W.cell? ⟨ig, (L2 + 1) * 4, none⟩ = some (.int .i64 1) ∧ W.cell? ⟨ig, (L2 + 1) * 4 + 1, none⟩ = some .nilIface ∧ W.cell? ⟨ig, (L2 + 1) * 4 + 2, none⟩ = some (.int .i64 (-1)) ∧ W.cell? ⟨ig, (L2 + 1) * 4 + 3, none⟩ = some (.int .i64 (-1)))) :=
        Lib.hid (fun W h => ⟨(h.cell hig).trans d0, (h.cell hig).trans d1, (h.cell hig).trans d2, (h.cell hig).trans d3⟩)
      have HE : Hid ((∀ (W : World), Below w2.heap.size w2 W → W.cell? ⟨ig, L2 * 4, none⟩ = some (.int .i64 5) ∧ W.cell? ⟨ig, L2 * 4 + 1, none⟩ = some .nilIface ∧ W.cell? ⟨ig, L2 * 4 + 2, none⟩ = some (.int .i64 1) ∧ W.cell? ⟨ig, L2 * 4 + 3, none⟩ = some (.int .i64 (-1)))) :=
        Lib.hid (fun W h => ⟨(h.cell hig).trans e0, (h.cell hig).trans e1, (h.cell hig).trans e2, (h.cell hig).trans e3⟩)
      clear d0 d1 d2 d3 e0 e1 e2 e3 hv0 hv1 hv2
      go_wp2_with fail
      refine (fields_any _ _ _ _ _).mono ?_
      rintro e w3 ⟨rfl, hb3⟩
      obtain ⟨d0, d1, d2, d3⟩ := HD.out w3 hb3
      have HB3 := Lib.hid hb3
      clear c0 c1 c2 c3 hb3
      go_wp2_with fail
      refine (fields_any _ _ _ _ _).mono ?_
      rintro e w4 ⟨rfl, hb4⟩
      have hb4 := HB3.out.trans (hb4.mono HB3.out.size)
      obtain ⟨e0, e1, e2, e3⟩ := HE.out w4 hb4
      have HB4 := Lib.hid hb4
      clear d0 d1 d2 d3 hb4 HB3
      go_wp2_with fail
      refine (fields_any _ _ _ _ _).mono ?_
      rintro e w5 ⟨rfl, hb5⟩
      have HB5 := Lib.hid (HB4.out.trans (hb5.mono HB4.out.size))
      clear e0 e1 e2 e3 hb5 HB4 HD HE
      obtain ⟨M, hM⟩ : ∃ M : Nat, M = 2 * J.length + 4 := ⟨_, rfl⟩
      have hMa : M ≤ 2 * J.length + 4 := by omega
      have hMb : 2 * J.length + 4 ≤ M := by omega
      have hmi := make_ints M (by omega) (2 * (J.length : Int) + 4) (by omega)
      have hmb := make_bools M (by omega) (2 * (J.length : Int) + 4) (by omega)
      have HM := Lib.hid hM
      clear hM
      have hsz1 : ∀ (W : World) (o : Obj), (W.alloc o).heap.size = W.heap.size + 1 := fun W o => by simp
      go_upto_region 24 with (fail)
      have hR := rows_start w5 J M
      have HBW := Lib.hid (HB2.out.trans (HB5.out.mono HB2.out.size))
      have hpg : ProgAt w5 ig J := fun n i hi => by
        obtain ⟨v, hv, c0, c1, c2, c3⟩ := HPA.out n i hi
        exact ⟨v, hv, (HB5.out.cell hig).trans c0, (HB5.out.cell hig).trans c1, (HB5.out.cell hig).trans c2, (HB5.out.cell hig).trans c3⟩
      have HEV : Hid (LEnv w5 J w5.heap.size ig M w5.heap.size (w5.heap.size + 1) (w5.heap.size + 1 + 1)) := Lib.hid ⟨hpg, Nat.lt_of_lt_of_le hig HB5.out.size, Nat.le_refl _, Nat.le_refl _, by omega, by omega, ⟨by omega, by omega, by omega⟩, hjl, HM.out, HF.out.ok⟩
      have HR := Lib.hid hR
      clear hR hpg hmi hmb HB2 HB5 HPA
      generalize ((w5.alloc (.cells (madeCells #[.int .i64 0] M) 3)).alloc (.cells (madeCells #[.int .i64 0] M) 3)).alloc (.cells (madeCells #[.bool false] M) 4) = w6 at *
      go_wp2_with fail
      refine wp_mono (law_loop HEV.out (icap := icap) (s := a0) (k := 0) (Nat.zero_le _) ?hf ?hrel) ?_
      case hf => exact ⟨rfl, rfl, rfl, rfl, rfl, rfl, rfl, rfl⟩
      case hrel => exact ⟨rfl, rfl, HR.out⟩
      intro e a' w' hq
      cases e with
      | exit id =>
        obtain ⟨rfl, hf, h22, h23, hR⟩ := hq
        obtain ⟨f, hfr⟩ := lframe_lit a'.tmps hf.sz hf.s0 hf.s8 hf.s9 hf.s19 hf.s20 hf.s21 h22 h23
        have ha := lact_is hf.df
        rw [hfr] at ha
        subst ha
        have HBZ := Lib.hid (HBW.out.trans (hR.below0.mono HBW.out.size))
        have HC := Lib.hid (hR.cnt.congr (g := fun s => .int .i64 (cntL J s : Int)) (fun s _ => by rw [List.take_length]))
        have HAT := Lib.hid hR.ats
        have HPS := Lib.hid (hR.ps.congr (g := fun s => .bool (hasP J s)) (fun s _ => by rw [List.take_length]))
        have hodd := HF.out.odd
        have hsm := HF.out.small
        have HONE := Lib.hid HF.out.one
        have HTWO := Lib.hid HF.out.two
        obtain ⟨T, hT⟩ : ∃ T, topF J J.length = T := ⟨_, rfl⟩
        obtain ⟨aF, haF⟩ : ∃ aF : Nat → Nat, (fun s => atF J J.length s) = aF := ⟨_, rfl⟩
        have haF2 : ∀ s, atF J J.length s = aF s := fun s => by rw [← haF]
        clear haF hfr hf h22 h23 hR HR HEV HBW HF
        have HC := HC.out
        have HAT := HAT.out
        have HPS := HPS.out
        have HONE := HONE.out
        have HTWO := HTWO.out
        simp only [haF2, hT] at HAT HTWO HONE hodd hsm ⊢
        have HC := Lib.hid HC
        have HAT := Lib.hid HAT
        have HPS := Lib.hid HPS
        have HONE := Lib.hid HONE
        have HTWO := Lib.hid HTWO
        clear hT haF2
        have t59 : (Int.tmod (T : Int) 2 == 0) = false := by rw [beq_eq_false_iff_ne, Int.tmod_eq_emod_of_nonneg (by omega)]; omega
        go_wp2_with fail
        go_loopg [27] (T + 1 - 2) (fun k v wr => ∃ s : Nat, k = T + 1 - s ∧ v = .int .i64 s ∧ 2 ≤ s ∧ s ≤ T + 1 ∧ wr = w')
        case atStart => exact ⟨2, rfl, rfl, by omega, by omega, rfl⟩
        case round =>
          obtain ⟨s, rfl, rfl, h2s, hsT, rfl⟩ := hrel
          by_cases hlt : s ≤ T
          · have kc : wr.cell? ⟨w5.heap.size, s, none⟩ = some (.int .i64 1) := by
              rw [HC.out.cell (by omega), HONE.out s h2s hlt]; rfl
            have u1 : decide ((s : Int) ≤ (T : Int)) = true := decide_eq_true (by omega)
            have u2 : (s : Int) < (M : Int) := by omega
            go_wp2_with fail
            go_roundg (T + 1 - (s + 1))
            case measure => omega
            case rel => exact ⟨s + 1, rfl, rfl, by omega, by omega, rfl⟩
          · have u1 : decide ((s : Int) ≤ (T : Int)) = false := decide_eq_false (by omega)
            go_wp2_with fail
            obtain ⟨wA, hwA⟩ : ∃ x, x = wr := ⟨_, rfl⟩
            subst hwA
            go_loopg [28] (T + 1 - 2) (fun k v wr2 => ∃ s : Nat, k = T + 1 - s ∧ v = .int .i64 s ∧ 2 ≤ s ∧ s ≤ T + 1 ∧ s % 2 = 0 ∧ Hid (∃ q, wr2 = wA.drewN q))
            case atStart => exact ⟨2, rfl, rfl, by omega, by omega, rfl, Lib.hid ⟨0, rfl⟩⟩
            case round =>
              obtain ⟨s3, rfl, rfl, h2s3, hsT3, hev3, HQ⟩ := hrel
              by_cases hlt3 : s3 + 1 ≤ T
              · have u3 : decide ((s3 : Int) + 1 ≤ (T : Int)) = true := decide_eq_true (by omega)
                have u4 : (s3 : Int) < (M : Int) := by omega
                have u5 : (s3 : Int) + 1 < (M : Int) := by omega
                cases hhp : hasP J s3 with
                | true =>
                  have kp : wr.cell? ⟨w5.heap.size + 1 + 1, s3, none⟩ = some (.bool true) := by obtain ⟨q, rfl⟩ := HQ.out; exact (HPS.out.cell (by omega)).trans (by rw [hhp])
                  clear hhp
                  go_wp2_with fail
                  go_quiet (fail)
                  generalize hwd : World.drewN wr _ = wd
                  have HQ2 : Hid (∃ q, wd = wA.drewN q) := by subst hwd; obtain ⟨q, hq⟩ := HQ.out; rw [hq]; exact Lib.hid ⟨q + nq, by rw [World.drewN_drewN]⟩
                  clear hwd
                  go_wp2_with fail
                  go_roundg (T + 1 - (s3 + 2))
                  case measure => omega
                  case rel => exact ⟨s3 + 2, rfl, rfl, by omega, by omega, by omega, HQ2⟩
                | false =>
                  have kp : wr.cell? ⟨w5.heap.size + 1 + 1, s3, none⟩ = some (.bool false) := by obtain ⟨q, rfl⟩ := HQ.out; exact (HPS.out.cell (by omega)).trans (by rw [hhp])
                  have ka : wr.cell? ⟨w5.heap.size + 1, s3, none⟩ = some (.int .i64 (aF s3 : Int)) := by obtain ⟨q, rfl⟩ := HQ.out; exact HAT.out.cell (by omega)
                  have kb : wr.cell? ⟨w5.heap.size + 1, s3 + 1, none⟩ = some (.int .i64 (aF (s3 + 1) : Int)) := by obtain ⟨q, rfl⟩ := HQ.out; exact HAT.out.cell (by omega)
                  have hab : aF s3 < aF (s3 + 1) := by
                    rcases HTWO.out s3 hev3 h2s3 hlt3 with h | h
                    · rw [hhp] at h; cases h
                    · exact h
                  generalize aF s3 = x at *
                  generalize aF (s3 + 1) = y at *
                  have u6 : decide (y ≤ x) = false := decide_eq_false (by omega)
                  clear hhp
                  go_wp2_with fail
                  go_quiet (fail)
                  generalize hwd : World.drewN wr _ = wd
                  have HQ2 : Hid (∃ q, wd = wA.drewN q) := by subst hwd; obtain ⟨q, hq⟩ := HQ.out; rw [hq]; exact Lib.hid ⟨q + nq, by rw [World.drewN_drewN]⟩
                  clear hwd
                  go_wp2_with fail
                  go_roundg (T + 1 - (s3 + 2))
                  case measure => omega
                  case rel => exact ⟨s3 + 2, rfl, rfl, by omega, by omega, by omega, HQ2⟩
              · go_wp2_with fail
                go_ret
                obtain ⟨q, rfl⟩ := HQ.out
                exact ⟨rfl, below_drewN HBZ.out q⟩
      | ret => exact hq.elim
      | normal => exact hq.elim
      | goto n => exact hq.elim
      | panic ch => exact hq.elim
      | outgrown => exact hq.elim

/-! ### THE ROW's STEP -/
set_option maxRecDepth 100000 in
theorem lifted (os : Os) (started : os.Started) (H : Type) (enc : TypeId × Value → H) :
    ReturnsInTold none {} Tryf.checked os 4 .any Input.okWide ((OpenSpec.ofChange Rows.fnCompilePatternWellFormedSpec).preRow enc Tryf.prog Tryf.f4 [] false []) (fun G => ((OpenSpec.ofChange Rows.fnCompilePatternWellFormedSpec).at G).post enc Tryf.prog Tryf.f4 false true false false) (aloneAtReturn Tryf.prog) nothingAlways := by
  refine returnsInTold_of_row (C := Tryf.checked) (s := OpenSpec.ofChange Rows.fnCompilePatternWellFormedSpec) (by kernel_rfl) own started (by kernel_rfl) Tryf.func4
    (OpenSpec.witness_stopped (enc := enc) (C := Tryf.checked) false ⟨#[], #[.string ByteArray.empty], []⟩ 8 (by kernel_rfl) (by kernel_rfl) (by kernel_rfl) (by kernel_rfl)) ?_
  intro G W base args ds gs before _ hF hval0 hW _ _ _ _ _
  have hval : ∀ (j : Nat) t v, Tryf.f4.params[j]? = some t → args[j]? = some v → Value.okWide Tryf.prog W .any base t v := hval0
  have hW' := hW
  obtain ⟨p, q, hA0, hV, rfl, hfz, hnd⟩ := hW
  have hA : DataW.TrodAll enc Tryf.prog W 0 (fun _ => true) true Tryf.f4.params.toList args.toList ds p := hA0
  rw [Tryf.params4] at hA hval
  obtain ⟨v0, vs0, d0, ds0, p0, q0, hargs, rfl, rfl, h0, r0⟩ := trodAll_cons hA
  obtain ⟨rfl, rfl, rfl⟩ := trodAll_nil r0
  obtain rfl : args = #[v0] := by cases args; simp_all
  obtain ⟨rfl, rfl⟩ := trodVars_none hV
  obtain ⟨a0, rfl, rfl, rfl, w0⟩ := open_string Tryf.underlying9 (hval 0 9 v0 rfl rfl) h0
  clear hA0 hval0
  refine (walk a0 W w0).mono fun e W' ⟨he, bel⟩ => ?_
  subst he
  exact ⟨_, rfl, _, _, _, [], _, [], hW', trodAll_mk1 (shut_bool Tryf.underlying4 _), (trodAll_cons_mk (shut_string Tryf.underlying9 w0) trodAll_mk0), rfl, bel.frame _, fun h => by cases h⟩

/-- ████ THE STATEMENT ████ -/
theorem proved : Rows.FnCompilePatternWellFormedToldSaid :=
  Claim7.holds_of_told_any 4 Tryf.f4 "fmt.Sprintf, its operands' methods called" [] [] (true, "ed63ea41d276ed258e54fe7750a566e5c9755df799dd98f6a690861adf1c9bb0") true false (by kernel_rfl) rfl rfl rfl laidOut (by kernel_rfl) rfl ⟨rfl, rfl, rfl, rfl, rfl, rfl, rfl⟩ rfl rfl (by kernel_rfl) (by kernel_rfl) Tryf.func4 (by kernel_rfl)
    (of_decide_eq_true (by kernel_rfl)) (by unfold Func.isWrapper; first | (rw [if_pos (by decide +kernel)]; kernel_rfl) | (rw [if_neg (by decide +kernel)]; exact ⟨rfl, rfl⟩)) stops.symm rfl stopKnobs.symm (by kernel_rfl)
    (by kernel_rfl) (by kernel_rfl) (by kernel_rfl) (by kernel_rfl) (by kernel_rfl) (by kernel_rfl) (by kernel_rfl) (by kernel_rfl) (by kernel_rfl) rfl (by kernel_rfl) rfl rfl
    rfl rfl
    rfl (by kernel_rfl) (by kernel_rfl) (by kernel_rfl) (by decide) (by kernel_rfl)
    (OpenClaim.moreEntering_of (by kernel_rfl) (by kernel_rfl) (by kernel_rfl) (by kernel_rfl) (by kernel_rfl) (by kernel_rfl) (by kernel_rfl) (by kernel_rfl) (by kernel_rfl) (by kernel_rfl))
    ⟨_, WideRow.started_initial, quiet _⟩
    (fun os started _ H enc _ => lifted os started H enc)
#print axioms proved
end Go.Proofs.YtejankffdmahnaaFmt.fnCompilePatternWellFormed
