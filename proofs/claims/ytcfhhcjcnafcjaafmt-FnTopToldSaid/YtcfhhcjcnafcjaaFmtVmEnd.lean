/-
  The contract of recursiveVM. Conditions as each statement says.
-/
import Derived.Test.YtcfhhcjcnafcjaaFmtVmAll
import Derived.Test.YtcfhhcjcnafcjaaFmtVmAll2
import Derived.Test.YtcfhhcjcnafcjaaFmtPpEnd
namespace Go.Proofs.YtcfhhcjcnafcjaaFmt
open Go.RowKit
set_option linter.unusedVariables false
set_option linter.unusedSimpArgs false


theorem vm_pass {w0 w : World} {m : Nat} {ao0 : Option Addr} {sao : Option Addr} {scap : Nat} {zs : List Int} {iao : Option Addr} {icap : Nat} {I : List Ins} {ys : List Value} {rc d n : Nat} {r : Bool × Nat × List Int} {J : Act → World → Prop} {a : Act} (ih : ∀ d', d' < d → VSpec d')
    (hs0 : 0 < zs.length → ∀ x, sao = some x → x.block < w0.heap.size) (hrc : rc + d ≤ 1000000) (hv : VJ w0 m ao0 sao scap zs iao icap I ys rc d r n a w) (hJ : ∀ n' a' w', n' < n → VJ w0 m ao0 sao scap zs iao icap I ys rc d r n' a' w' → J a' w') : vmRest.wp Tryf.prog (Exit.jump 0 J (VQ w0 m ao0 r)) a w := by
  obtain ⟨pc, sp, us, ao, cap, hf, he, hmd, hm0, hrun, hsp, hcp⟩ := hv
  obtain ⟨f, hfr⟩ := vm_lit a.tmps hf.sz hf.s0 hf.s1 hf.s2 hf.s3 hf.s4 hf.s15
  have ha := act_lit hf.df
  rw [hfr] at ha
  subst ha
  clear hfr hf
  cases hrun with
  | chrNo hi h =>
    rcases Nat.lt_or_ge sp zs.length with hlt | hge
    · exact vm_chrNo (nn := 0) he hs0 hmd hm0 hsp hcp hrc trivial hi hlt (h.resolve_left (by omega)) rfl f
    · exact vm_chrEnd (nn := 0) he hs0 hmd hm0 hsp hcp hrc trivial hi hge rfl f
  | chrYes hi hlt h hr => exact vm_chrYes he hs0 hmd hm0 hsp hcp hrc (fun a' w' h' => hJ _ a' w' (Nat.lt_succ_self _) h') hi hlt h hr f
  | mat hi => exact vm_mat (nn := 0) he hs0 hmd hm0 hsp hcp hrc trivial hi rfl f
  | tmat hi => exact vm_tmat (nn := 0) he hs0 hmd hm0 hsp hcp hrc trivial hi rfl f
  | jmp hi hr => exact vm_jmp he hs0 hmd hm0 hsp hcp hrc (fun a' w' h' => hJ _ a' w' (Nat.lt_succ_self _) h') hi hr f
  | splitA hi hr => exact vm_splitA he hs0 hmd hm0 hsp hcp hrc trivial hi hr rfl (ih _ (Nat.lt_succ_self _)) f
  | splitB hi hr hr2 => exact vm_splitB he hs0 hmd hm0 hsp hcp hrc (fun a' w' h' => hJ _ a' w' (Nat.lt_succ_self _) h') hi hr hr2 (ih _ (Nat.lt_succ_self _)) f
  | saveYes hi hr => exact vm_saveYes he hs0 hmd hm0 hsp hcp hrc trivial hi hr rfl (ih _ (Nat.lt_succ_self _)) f
  | saveNo hi hr hk => exact vm_saveNo he hs0 hmd hm0 hsp hcp hrc trivial hi hr rfl hk (ih _ (Nat.lt_succ_self _)) f
  | psave hi hr => exact vm_psave he hs0 hmd hm0 hsp hcp hrc (fun a' w' h' => hJ _ a' w' (Nat.lt_succ_self _) h') hi hr f
  | braceNo hi h =>
    rcases Nat.lt_or_ge sp zs.length with hlt | hge
    · exact vm_brcNo (nn := 0) he hs0 hmd hm0 hsp hcp hrc trivial hi hlt (h.resolve_left (by omega)) rfl f
    · exact vm_brcEnd (nn := 0) he hs0 hmd hm0 hsp hcp hrc trivial hi hge rfl f
  | braceEnd hi hlt hb h => exact vm_brcRun (nn := 0) he hs0 hmd hm0 hsp hcp hrc trivial hi hlt hb h (fun _ => rfl) (fun s' e => by cases e) f
  | braceYes hi hlt hb h hr => exact vm_brcRun he hs0 hmd hm0 hsp hcp hrc trivial hi hlt hb h (fun e => by cases e) (fun s' e => by injection e with e; subst e; exact ⟨hr, brace_le _ _ _ _ rfl h, fun a' w' h' => hJ _ a' w' (Nat.lt_succ_self _) h'⟩) f
  | numNo hi hk h1 h2 hi2 hne => exact vm_num (nn := 0) he hs0 hmd hm0 hsp hcp hrc trivial hi hk h1 h2 (fun h => absurd (h _ hi2) hne) (fun _ _ _ => rfl) f
  | numYes hi hk h1 h2 hall hr => exact vm_num he hs0 hmd hm0 hsp hcp hrc trivial hi hk h1 h2 (fun _ => ⟨hr, fun a' w' h' => hJ _ a' w' (Nat.lt_succ_self _) h'⟩) (fun i hi2 hne => absurd (hall i hi2) hne) f

theorem vm_code {P : Program} {c c' : Code} {Q : Exit → Act → World → Prop} {a : Act} {w : World} (h : c = c') (hw : c'.wp P Q a w) : c.wp P Q a w := h ▸ hw
theorem vm_results {tmps : Array Value} {w : World} {v1 v2 v3 : Value} (h1 : tmps[12]? = some v1) (h2 : tmps[13]? = some v2) (h3 : tmps[14]? = some v3) : (results Tryf.f21 tmps).run Tryf.prog w = .ok (.tuple #[v1, v2, v3]) w := by
  have h1' : tmps[12]?.getD undef = v1 := by rw [h1]; rfl
  have h2' : tmps[13]?.getD undef = v2 := by rw [h2]; rfl
  have h3' : tmps[14]?.getD undef = v3 := by rw [h3]; rfl
  simp [results, Tryf.results21, h1', h2', h3']
set_option maxHeartbeats 4000000 in
set_option maxRecDepth 1000000 in
theorem vm_step (d : Nat) (ih : ∀ d', d' < d → VSpec d') : VSpec d := by
  intro w m g ao cap us sao scap zs iao icap I ys n pc sp rc r he hs hmd hg hrun hsp hcp hrc
  have HE := Lib.hid he
  have HS := Lib.hid hs
  have HMD := Lib.hid hmd
  have HR := Lib.hid hrun
  have IH := Lib.hid ih
  clear he hs hmd hrun ih
  go_enter Tryf.func21, Tryf.ntmps21
  go_wp2_with fail
  refine wp_mono (wp_scope_ghost (Q := VQ w m ao r) (rest := .seq .skip vmRest) 0 (VJ w m ao sao scap zs iao icap I ys (rc + 1) d r) (by kernel_rfl) ?_ ?_) ?_
  · suffices hfirst : ∀ (J : Act → World → Prop), (∀ n' a' w', VJ w m ao sao scap zs iao icap I ys (rc + 1) d r n' a' w' → J a' w') → Code.wp _ _ (Exit.jump 0 J (VQ w m ao r)) _ _ from hfirst _ (fun n' a' w' h => ⟨n', h⟩)
    intro J hJ
    have HJ := Lib.hid hJ
    have HRC := Lib.hid hrc
    have t1 : decide ((1000000 : Int) < (rc : Int) + 1) = false := decide_eq_false (by omega)
    have hrc1 : rc ≤ 2097152 := by omega
    clear hJ hrc
    go_wp2_with fail
    go_step3
    go_step
    go_step
    refine vm_code (c' := vmRest) (by kernel_rfl) ?_
    refine vm_pass (n := n) IH.out HS.out (by have := HRC.out; omega) ?_ (fun n' a' w' _ h => HJ.out n' a' w' h)
    exact vj_mk rfl rfl rfl rfl rfl rfl rfl rfl (by show some (Value.int .i64 ((rc : Int) + 1)) = some (Value.int .i64 ((rc + 1 : Nat) : Int)); rw [Int.natCast_add]; rfl) rfl HE.out HMD.out (Moved.refl _ _ _) HR.out hsp hcp
  · intro n' a' w' hv
    exact wp_skip_seq (vm_pass IH.out HS.out (by omega) hv (fun n2 a2 w2 hlt h => ⟨n2, hlt, h⟩))
  · intro e a' w' hq
    cases e with
    | ret =>
      obtain ⟨hdf, h12, h13, h14, ao', cap', hmd', hm'⟩ := hq
      exact bodyPost_ret (vm_results h12 h13 h14) hdf ⟨ao', cap', rfl, hmd', hm'⟩
    | normal => exact hq.elim
    | goto l => exact hq.elim
    | exit id => exact hq.elim
    | panic ch => exact hq.elim
    | outgrown => exact hq.elim
/-- The contract of a call with the caller's MatchData. -/
theorem vm_all (d : Nat) : VSpec d := by
  induction d using Nat.strongRecOn with
  | _ d ih => exact vm_step d ih


theorem VEnv.fresh {w w' : World} {X : Nat → Prop} {sao : Option Addr} {zs : List Int} {iao : Option Addr} {icap : Nat} {I : List Ins} {ys : List Value} (h : VEnv w (fun _ => False) sao zs iao icap I ys) (hb : Below w.heap.size w w') (hs : 0 < zs.length → ∀ x, sao = some x → x.block < w.heap.size) (hX : ∀ k, k < w.heap.size → ¬ X k) : VEnv w' X sao zs iao icap I ys := by
  refine ⟨h.src.below hb (Nat.le_refl _), fun h0 x hx => hX _ (hs h0 x hx), owns_kept h.own (fun g o hg ho => blk_below ho hb (owns_lt h.own g hg).2), fun g hg => hX g (owns_lt h.own g hg).2, h.els.kept (fun k o _ ho => blk_below ho hb (blk_lt ho)) (fun k hk hx => hX k hk hx), h.byte, h.len, h.slots⟩
/-- What a call without a MatchData gives: one of its own. -/
def VTopPost (w : World) (r : Bool × Nat × List Int) (e : Ending) (w' : World) : Prop :=
  ∃ m ao' cap', e = .returned (.tuple #[.bool r.1, .int .i64 r.2.1, .pointer (some ⟨m, 0, none⟩)]) ∧ MD w' m ao' cap' r.2.2 ∧ Below w.heap.size w w' ∧ w.heap.size ≤ m ∧ (∀ g, blkOf ao' = some g → w.heap.size ≤ g)
set_option maxHeartbeats 4000000 in
set_option maxRecDepth 1000000 in
theorem vmTop_any {w : World} {sao : Option Addr} {scap : Nat} {zs : List Int} {iao : Option Addr} {icap : Nat} {I : List Ins} {ys : List Value} {n d sp : Nat} {r : Bool × Nat × List Int} (he : VEnv w (fun _ => False) sao zs iao icap I ys) (hs : 0 < zs.length → ∀ x, sao = some x → x.block < w.heap.size)
    (hrun : VRun zs I d n 0 sp [] r) (hsp : sp ≤ zs.length) (hcp : zs.length ≤ scap) (hd : d + 1 ≤ 1000000) :
    Calls Tryf.prog 21 #[.slice sao zs.length scap, .slice iao I.length icap, .int .i64 0, .int .i64 sp, .int .i64 0, .slice none 0 0] w (VTopPost w r) := by
  have HE := Lib.hid he
  have HS := Lib.hid hs
  have HR := Lib.hid hrun
  have HD := Lib.hid hd
  have HX : Hid (∀ k, k < w.heap.size → ¬ CX (w.heap.size + 1) (some ⟨w.heap.size, 0, none⟩) k) := Lib.hid (fun k hk h => by
    rcases h with h | h
    · omega
    · simp only [blkOf, Option.map_some, Option.some.injEq] at h; omega)
  clear he hs hrun hd
  go_enter Tryf.func21, Tryf.ntmps21
  go_wp2_with fail
  obtain ⟨ao0, hao0⟩ : ∃ ao0 : Option Addr, ao0 = some ⟨w.heap.size, 0, none⟩ := ⟨_, rfl⟩
  obtain ⟨m, hm⟩ : ∃ m, m = w.heap.size + 1 := ⟨_, rfl⟩
  obtain ⟨Wn, hWn⟩ : ∃ Wn : World → Prop, ∀ w1, Wn w1 ↔ (MD w1 m ao0 0 [] ∧ Below w.heap.size w w1) := ⟨_, fun _ => Iff.rfl⟩
  have HW := Lib.hid hWn
  have HM := Lib.hid (And.intro hm hao0)
  clear hWn hm hao0
  refine wp_mono (wp_scope_ghost (Q := fun e a w' => ∃ w1, Wn w1 ∧ VQ w1 m ao0 r e a w') (rest := .seq .skip vmRest) 0 (fun n a w' => ∃ w1, Wn w1 ∧ VJ w1 m ao0 sao scap zs iao icap I ys 1 d r n a w') (by kernel_rfl) ?_ ?_) ?_
  · suffices hfirst : ∀ (J : Act → World → Prop) (Q : Exit → Act → World → Prop), (∀ w1 n' a' w', Wn w1 → VJ w1 m ao0 sao scap zs iao icap I ys 1 d r n' a' w' → J a' w') → (∀ w1 e a' w', Wn w1 → VQ w1 m ao0 r e a' w' → Q e a' w') → Code.wp _ _ (Exit.jump 0 J Q) _ _ from hfirst _ _ (fun w1 n' a' w' h1 h => ⟨n', w1, h1, h⟩) (fun w1 e a' w' h1 h => ⟨w1, h1, h⟩)
    intro J Q hJ hQ
    have HJ := Lib.hid hJ
    have HQ := Lib.hid hQ
    clear hJ hQ
    go_wp2_with fail
    refine (newMatch_any w).mono ?_
    rintro e w1 ⟨rfl, hmd, hb, hsz⟩
    have HWN : Hid (Wn w1) := Lib.hid ((HW.out w1).2 ⟨by rw [HM.out.1, HM.out.2]; exact hmd, hb⟩)
    have HB := Lib.hid hb
    have HMD := Lib.hid hmd
    clear hmd hb hsz
    go_wp2_with fail
    go_step3
    go_step
    go_step
    refine vm_code (c' := vmRest) (by kernel_rfl) ?_
    refine wp_mono (vm_pass (w0 := w1) (m := w.heap.size + 1) (ao0 := some ⟨w.heap.size, 0, none⟩) (sao := sao) (scap := scap) (zs := zs) (iao := iao) (icap := icap) (I := I) (ys := ys) (rc := 1) (d := d) (n := n) (r := r) (J := J) (fun d' _ => vm_all d') (fun h0 x hx => Nat.lt_of_lt_of_le (HS.out h0 x hx) HB.out.size) (by have := HD.out; omega) (vj_mk rfl rfl rfl rfl rfl rfl rfl rfl rfl rfl (HE.out.fresh HB.out HS.out HX.out) HMD.out (Moved.refl _ _ _) HR.out hsp hcp)
      (fun n' a' w' _ h => HJ.out w1 n' a' w' HWN.out (by rw [HM.out.1, HM.out.2]; exact h))) ?_
    intro e a' w' hq
    rw [← HM.out.1, ← HM.out.2] at hq
    cases e with
    | goto l => exact hq
    | normal => exact HQ.out w1 _ _ _ HWN.out hq
    | exit id => exact HQ.out w1 _ _ _ HWN.out hq
    | ret => exact HQ.out w1 _ _ _ HWN.out hq
    | panic ch => exact HQ.out w1 _ _ _ HWN.out hq
    | outgrown => exact HQ.out w1 _ _ _ HWN.out hq
  · rintro n' a' w' ⟨w1, hwn, hv⟩
    have hb := ((HW.out w1).1 hwn).2
    refine wp_skip_seq (wp_mono (vm_pass (fun d' _ => vm_all d') (fun h0 x hx => Nat.lt_of_lt_of_le (HS.out h0 x hx) hb.size) (by have := HD.out; omega) hv (J := fun a' w' => ∃ n2, n2 < n' ∧ ∃ w1, Wn w1 ∧ VJ w1 m ao0 sao scap zs iao icap I ys 1 d r n2 a' w') (fun n2 a2 w2 hlt h => ⟨n2, hlt, w1, hwn, h⟩)) ?_)
    intro e a2 w2 hq
    cases e with
    | goto l => exact hq
    | normal => exact ⟨w1, hwn, hq⟩
    | exit id => exact ⟨w1, hwn, hq⟩
    | ret => exact ⟨w1, hwn, hq⟩
    | panic ch => exact ⟨w1, hwn, hq⟩
    | outgrown => exact ⟨w1, hwn, hq⟩
  · rintro e a' w' ⟨w1, hwn, hq⟩
    obtain ⟨hmd1, hb1⟩ := (HW.out w1).1 hwn
    cases e with
    | ret =>
      obtain ⟨hdf, h12, h13, h14, ao', cap', hmd', hm'⟩ := hq
      refine bodyPost_ret (vm_results h12 h13 h14) hdf ⟨m, ao', cap', rfl, hmd', hb1.trans (hm'.below (by rw [HM.out.1]; omega) (fun g hg => by rw [HM.out.2] at hg; simp only [blkOf, Option.map_some, Option.some.injEq] at hg; omega) hb1.size), by rw [HM.out.1]; omega, hm'.rowB (fun g hg => by rw [HM.out.2] at hg; simp only [blkOf, Option.map_some, Option.some.injEq] at hg; omega) hb1.size⟩
    | normal => exact hq.elim
    | goto l => exact hq.elim
    | exit id => exact hq.elim
    | panic ch => exact hq.elim
    | outgrown => exact hq.elim

end Go.Proofs.YtcfhhcjcnafcjaaFmt
