/-
  The contract of recursiveVM where the caller brings no MatchData. Its condition: as its statement says.
-/
import Derived.Test.YtankjgbcpdodgaaFmtVmRun
namespace Go.Proofs.YtankjgbcpdodgaaFmt
open Go.RowKit
set_option linter.unusedVariables false
set_option linter.unusedSimpArgs false

theorem VEnv.fresh {w w' : World} {X : Nat → Prop} {sao : Option Addr} {zs : List Int} {iao : Option Addr} {icap : Nat} {I : List Ins} {ys : List Value} (h : VEnv w (fun _ => False) sao zs iao icap I ys) (hb : Below w.heap.size w w') (hs : ∀ x, sao = some x → x.block < w.heap.size) (hX : ∀ k, k < w.heap.size → ¬ X k) : VEnv w' X sao zs iao icap I ys := by
  refine ⟨h.src.below hb (Nat.le_refl _), fun x hx => hX _ (hs x hx), owns_kept h.own (fun g o hg ho => blk_below ho hb (owns_lt h.own g hg).2), fun g hg => hX g (owns_lt h.own g hg).2, h.els.kept (fun k o _ ho => blk_below ho hb (blk_lt ho)) (fun k hk hx => hX k hk hx), h.byte, h.len, h.slots⟩
/-- What a call without a MatchData gives: one of its own. -/
def VTopPost (w : World) (r : Bool × Nat × List Int) (e : Ending) (w' : World) : Prop :=
  ∃ m ao' cap', e = .returned (.tuple #[.bool r.1, .int .i64 r.2.1, .pointer (some ⟨m, 0, none⟩)]) ∧ MD w' m ao' cap' r.2.2 ∧ Below w.heap.size w w' ∧ w.heap.size ≤ m ∧ (∀ g, blkOf ao' = some g → w.heap.size ≤ g)
set_option maxHeartbeats 4000000 in
set_option maxRecDepth 1000000 in
theorem vmTop_any {w : World} {sao : Option Addr} {scap : Nat} {zs : List Int} {iao : Option Addr} {icap : Nat} {I : List Ins} {ys : List Value} {n d sp : Nat} {r : Bool × Nat × List Int} (he : VEnv w (fun _ => False) sao zs iao icap I ys) (hs : ∀ x, sao = some x → x.block < w.heap.size)
    (hrun : VRun zs I d n 0 sp [] r) (hsp : sp ≤ zs.length) (hd : d + 1 ≤ 1000000) :
    Calls Tryf.prog 27 #[.slice sao zs.length scap, .slice iao I.length icap, .int .i64 0, .int .i64 sp, .int .i64 0, .slice none 0 0] w (VTopPost w r) := by
  have HE := Lib.hid he
  have HS := Lib.hid hs
  have HR := Lib.hid hrun
  have HD := Lib.hid hd
  have HX : Hid (∀ k, k < w.heap.size → ¬ CX (w.heap.size + 1) (some ⟨w.heap.size, 0, none⟩) k) := Lib.hid (fun k hk h => by
    rcases h with h | h
    · omega
    · simp only [blkOf, Option.map_some, Option.some.injEq] at h; omega)
  clear he hs hrun hd
  go_enter Tryf.func27, Tryf.ntmps27
  go_wp2_with fail
  obtain ⟨ao0, hao0⟩ : ∃ ao0 : Option Addr, ao0 = some ⟨w.heap.size, 0, none⟩ := ⟨_, rfl⟩
  obtain ⟨m, hm⟩ : ∃ m, m = w.heap.size + 1 := ⟨_, rfl⟩
  obtain ⟨Wn, hWn⟩ : ∃ Wn : World → Prop, ∀ w1, Wn w1 ↔ (MD w1 m ao0 0 [] ∧ Below w.heap.size w w1) := ⟨_, fun _ => Iff.rfl⟩
  have HW := Lib.hid hWn
  have HM := Lib.hid (And.intro hm hao0)
  clear hWn hm hao0
  refine wp_mono (wp_scope_ghost (Q := fun e a w' => ∃ w1, Wn w1 ∧ VQ w1 m ao0 r e a w') (rest := .seq .skip vmRest) 0 (fun n a w' => ∃ w1, Wn w1 ∧ VJ w1 m ao0 sao scap zs iao icap I ys 1 d r n a w') (by kernel_rfl) ?_ ?_) ?_
  · suffices hfirst : ∀ (J : Act → World → Prop) (Q : Exit → Act → World → Prop), (∀ w1 n' a' w', Wn w1 → VJ w1 m ao0 sao scap zs iao icap I ys 1 d r n' a' w' → J a' w') → (∀ w1 e a' w', Wn w1 → VQ w1 m ao0 r e a' w' → Q e a' w') → Code.wp _ _ (Exit.jump 0 J Q) _ _ from hfirst _ _ (fun w1 n' a' w' h1 h => ⟨n', w1, h1, h⟩) (fun w1 e a' w' h1 h => ⟨w1, h1, h⟩)
    intro J Q hJ hQ
    have HJ := Lib.hid hJ
    have HQ := Lib.hid hQ
    clear hJ hQ
    go_wp2_with fail
    refine (newMatch_any w).mono ?_
    rintro e w1 ⟨rfl, hmd, hb, hsz⟩
    have HWN : Hid (Wn w1) := Lib.hid ((HW.out w1).2 ⟨by rw [HM.out.1, HM.out.2]; exact hmd, hb⟩)
    have HB := Lib.hid hb
    have HMD := Lib.hid hmd
    clear hmd hb hsz
    go_wp2_with fail
    go_step3
    go_step
    go_step
    refine wp_code (c' := vmRest) (by kernel_rfl) ?_
    refine wp_mono (vm_pass (w0 := w1) (m := w.heap.size + 1) (ao0 := some ⟨w.heap.size, 0, none⟩) (sao := sao) (scap := scap) (zs := zs) (iao := iao) (icap := icap) (I := I) (ys := ys) (rc := 1) (d := d) (n := n) (r := r) (J := J) (fun d' _ => vm_all d') (fun x hx => Nat.lt_of_lt_of_le (HS.out x hx) HB.out.size) (by have := HD.out; omega) (vj_mk rfl rfl rfl rfl rfl rfl rfl rfl rfl rfl (HE.out.fresh HB.out HS.out HX.out) HMD.out (Moved.refl _ _ _) HR.out hsp)
      (fun n' a' w' _ h => HJ.out w1 n' a' w' HWN.out (by rw [HM.out.1, HM.out.2]; exact h))) ?_
    intro e a' w' hq
    rw [← HM.out.1, ← HM.out.2] at hq
    cases e with
    | goto l => exact hq
    | normal => exact HQ.out w1 _ _ _ HWN.out hq
    | exit id => exact HQ.out w1 _ _ _ HWN.out hq
    | ret => exact HQ.out w1 _ _ _ HWN.out hq
    | panic ch => exact HQ.out w1 _ _ _ HWN.out hq
    | outgrown => exact HQ.out w1 _ _ _ HWN.out hq
  · rintro n' a' w' ⟨w1, hwn, hv⟩
    have hb := ((HW.out w1).1 hwn).2
    refine wp_skip_seq (wp_mono (vm_pass (fun d' _ => vm_all d') (fun x hx => Nat.lt_of_lt_of_le (HS.out x hx) hb.size) (by have := HD.out; omega) hv (J := fun a' w' => ∃ n2, n2 < n' ∧ ∃ w1, Wn w1 ∧ VJ w1 m ao0 sao scap zs iao icap I ys 1 d r n2 a' w') (fun n2 a2 w2 hlt h => ⟨n2, hlt, w1, hwn, h⟩)) ?_)
    intro e a2 w2 hq
    cases e with
    | goto l => exact hq
    | normal => exact ⟨w1, hwn, hq⟩
    | exit id => exact ⟨w1, hwn, hq⟩
    | ret => exact ⟨w1, hwn, hq⟩
    | panic ch => exact ⟨w1, hwn, hq⟩
    | outgrown => exact ⟨w1, hwn, hq⟩
  · rintro e a' w' ⟨w1, hwn, hq⟩
    obtain ⟨hmd1, hb1⟩ := (HW.out w1).1 hwn
    cases e with
    | ret =>
      obtain ⟨hdf, h12, h13, h14, ao', cap', hmd', hm'⟩ := hq
      refine bodyPost_ret (vm_results h12 h13 h14) hdf ⟨m, ao', cap', rfl, hmd', hb1.trans (hm'.below (by rw [HM.out.1]; omega) (fun g hg => by rw [HM.out.2] at hg; simp only [blkOf, Option.map_some, Option.some.injEq] at hg; omega) hb1.size), by rw [HM.out.1]; omega, hm'.rowB (fun g hg => by rw [HM.out.2] at hg; simp only [blkOf, Option.map_some, Option.some.injEq] at hg; omega) hb1.size⟩
    | normal => exact hq.elim
    | goto l => exact hq.elim
    | exit id => exact hq.elim
    | panic ch => exact hq.elim
    | outgrown => exact hq.elim
end Go.Proofs.YtankjgbcpdodgaaFmt
