/-
  The contract of recursiveVM, its passes joined. Its condition: as its statement says.
-/
import Derived.Test.YtankjgbcpdodgaaFmtVmAll
import Derived.Test.YtankjgbcpdodgaaFmtParsePat
namespace Go.Proofs.YtankjgbcpdodgaaFmt
open Go.RowKit
set_option linter.unusedVariables false
set_option linter.unusedSimpArgs false

theorem vm_pass {w0 w : World} {m : Nat} {ao0 : Option Addr} {sao : Option Addr} {scap : Nat} {zs : List Int} {iao : Option Addr} {icap : Nat} {I : List Ins} {ys : List Value} {rc d n : Nat} {r : Bool × Nat × List Int} {J : Act → World → Prop} {a : Act} (ih : ∀ d', d' < d → VSpec d')
    (hs0 : ∀ x, sao = some x → x.block < w0.heap.size) (hrc : rc + d ≤ 1000000) (hv : VJ w0 m ao0 sao scap zs iao icap I ys rc d r n a w) (hJ : ∀ n' a' w', n' < n → VJ w0 m ao0 sao scap zs iao icap I ys rc d r n' a' w' → J a' w') : vmRest.wp Tryf.prog (Exit.jump 0 J (VQ w0 m ao0 r)) a w := by
  obtain ⟨pc, sp, us, ao, cap, hf, he, hmd, hm0, hrun, hsp⟩ := hv
  obtain ⟨f, hfr⟩ := vm_lit a.tmps hf.sz hf.s0 hf.s1 hf.s2 hf.s3 hf.s4 hf.s15
  have ha := act_lit hf.df
  rw [hfr] at ha
  subst ha
  clear hfr hf
  cases hrun with
  | chrNo hi h =>
    rcases Nat.lt_or_ge sp zs.length with hlt | hge
    · exact vm_chrNo (nn := 0) he hs0 hmd hm0 hsp hrc trivial hi hlt (h.resolve_left (by omega)) rfl f
    · exact vm_chrEnd (nn := 0) he hs0 hmd hm0 hsp hrc trivial hi hge rfl f
  | chrYes hi hlt h hr => exact vm_chrYes he hs0 hmd hm0 hsp hrc (fun a' w' h' => hJ _ a' w' (Nat.lt_succ_self _) h') hi hlt h hr f
  | mat hi => exact vm_mat (nn := 0) he hs0 hmd hm0 hsp hrc trivial hi rfl f
  | tmat hi => exact vm_tmat (nn := 0) he hs0 hmd hm0 hsp hrc trivial hi rfl f
  | jmp hi hr => exact vm_jmp he hs0 hmd hm0 hsp hrc (fun a' w' h' => hJ _ a' w' (Nat.lt_succ_self _) h') hi hr f
  | splitA hi hr => exact vm_splitA he hs0 hmd hm0 hsp hrc trivial hi hr rfl (ih _ (Nat.lt_succ_self _)) f
  | splitB hi hr hr2 => exact vm_splitB he hs0 hmd hm0 hsp hrc (fun a' w' h' => hJ _ a' w' (Nat.lt_succ_self _) h') hi hr hr2 (ih _ (Nat.lt_succ_self _)) f
  | saveYes hi hr => exact vm_saveYes he hs0 hmd hm0 hsp hrc trivial hi hr rfl (ih _ (Nat.lt_succ_self _)) f
  | saveNo hi hr hk => exact vm_saveNo he hs0 hmd hm0 hsp hrc trivial hi hr rfl hk (ih _ (Nat.lt_succ_self _)) f
  | psave hi hr => exact vm_psave he hs0 hmd hm0 hsp hrc (fun a' w' h' => hJ _ a' w' (Nat.lt_succ_self _) h') hi hr f
  | braceNo hi _ => exact (he.slots _ (List.mem_of_getElem? hi)).elim
  | braceYes hi _ _ _ _ => exact (he.slots _ (List.mem_of_getElem? hi)).elim
  | numNo hi _ _ _ _ _ => exact (he.slots _ (List.mem_of_getElem? hi)).elim
  | numYes hi _ _ _ _ _ => exact (he.slots _ (List.mem_of_getElem? hi)).elim

theorem wp_code {P : Program} {c c' : Code} {Q : Exit → Act → World → Prop} {a : Act} {w : World} (h : c = c') (hw : c'.wp P Q a w) : c.wp P Q a w := h ▸ hw
theorem vm_results {tmps : Array Value} {w : World} {v1 v2 v3 : Value} (h1 : tmps[12]? = some v1) (h2 : tmps[13]? = some v2) (h3 : tmps[14]? = some v3) : (results Tryf.f27 tmps).run Tryf.prog w = .ok (.tuple #[v1, v2, v3]) w := by
  have h1' : tmps[12]?.getD undef = v1 := by rw [h1]; rfl
  have h2' : tmps[13]?.getD undef = v2 := by rw [h2]; rfl
  have h3' : tmps[14]?.getD undef = v3 := by rw [h3]; rfl
  simp [results, Tryf.results27, h1', h2', h3']
set_option maxHeartbeats 4000000 in
set_option maxRecDepth 1000000 in
theorem vm_step (d : Nat) (ih : ∀ d', d' < d → VSpec d') : VSpec d := by
  intro w m g ao cap us sao scap zs iao icap I ys n pc sp rc r he hs hmd hg hrun hsp hrc
  have HE := Lib.hid he
  have HS := Lib.hid hs
  have HMD := Lib.hid hmd
  have HR := Lib.hid hrun
  have IH := Lib.hid ih
  clear he hs hmd hrun ih
  go_enter Tryf.func27, Tryf.ntmps27
  go_wp2_with fail
  refine wp_mono (wp_scope_ghost (Q := VQ w m ao r) (rest := .seq .skip vmRest) 0 (VJ w m ao sao scap zs iao icap I ys (rc + 1) d r) (by kernel_rfl) ?_ ?_) ?_
  · suffices hfirst : ∀ (J : Act → World → Prop), (∀ n' a' w', VJ w m ao sao scap zs iao icap I ys (rc + 1) d r n' a' w' → J a' w') → Code.wp _ _ (Exit.jump 0 J (VQ w m ao r)) _ _ from hfirst _ (fun n' a' w' h => ⟨n', h⟩)
    intro J hJ
    have HJ := Lib.hid hJ
    have HRC := Lib.hid hrc
    have t1 : decide ((1000000 : Int) < (rc : Int) + 1) = false := decide_eq_false (by omega)
    have hrc1 : rc ≤ 2097152 := by omega
    clear hJ hrc
    go_wp2_with fail
    go_step3
    go_step
    go_step
    refine wp_code (c' := vmRest) (by kernel_rfl) ?_
    refine vm_pass (n := n) IH.out HS.out (by have := HRC.out; omega) ?_ (fun n' a' w' _ h => HJ.out n' a' w' h)
    exact vj_mk rfl rfl rfl rfl rfl rfl rfl rfl (by show some (Value.int .i64 ((rc : Int) + 1)) = some (Value.int .i64 ((rc + 1 : Nat) : Int)); rw [Int.natCast_add]; rfl) rfl HE.out HMD.out (Moved.refl _ _ _) HR.out hsp
  · intro n' a' w' hv
    exact wp_skip_seq (vm_pass IH.out HS.out (by omega) hv (fun n2 a2 w2 hlt h => ⟨n2, hlt, h⟩))
  · intro e a' w' hq
    cases e with
    | ret =>
      obtain ⟨hdf, h12, h13, h14, ao', cap', hmd', hm'⟩ := hq
      exact bodyPost_ret (vm_results h12 h13 h14) hdf ⟨ao', cap', rfl, hmd', hm'⟩
    | normal => exact hq.elim
    | goto l => exact hq.elim
    | exit id => exact hq.elim
    | panic ch => exact hq.elim
    | outgrown => exact hq.elim
/-- The contract of a call with the caller's MatchData. -/
theorem vm_all (d : Nat) : VSpec d := by
  induction d using Nat.strongRecOn with
  | _ d ih => exact vm_step d ih
end Go.Proofs.YtankjgbcpdodgaaFmt
