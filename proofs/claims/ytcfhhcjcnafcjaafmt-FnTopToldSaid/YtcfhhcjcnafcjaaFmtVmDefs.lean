/-
  Definitions for the contract of recursiveVM: what the machine reads and keeps, its frame, a scope with jumps back to one label by a ghost number. Conditions as each states.
-/
import Derived.Test.YtcfhhcjcnafcjaaFmtCompTop
import Derived.Test.YtcfhhcjcnafcjaaFmtClsM
import Derived.Test.YtcfhhcjcnafcjaaFmtMtAll
import Derived.Deep.LoopGhost
import Derived.ScopeJumps
import Derived.WalkMore
namespace Go.Proofs.YtcfhhcjcnafcjaaFmt
open Go.RowKit
set_option linter.unusedVariables false
set_option linter.unusedSimpArgs false

section
variable {P : Program} {a : Act} {w : World} {Q : Exit → Act → World → Prop}
/-- A scope with jumps back to one label: an invariant that bears a number, which every pass lowers. -/
theorem wp_scope_ghost {c rest : Code} (l : Nat) (J : Nat → Act → World → Prop) (hf : findLabel c l = some rest) (first : c.wp P (Exit.jump l (fun a w => ∃ n, J n a w) Q) a w)
    (pass : ∀ n a w, J n a w → rest.wp P (Exit.jump l (fun a' w' => ∃ n', n' < n ∧ J n' a' w') Q) a w) : (Code.scope c).wp P Q a w := by
  refine wp_scope_jumps l (fun a w => ∃ n, J n a w) (fun a w => leastOf (fun n => J n a w)) hf first ?_
  intro a w hJ
  refine wp_mono (pass _ a w (leastOf_spec hJ).1) ?_
  intro e a' w' hq
  cases e with
  | goto l' =>
    obtain ⟨rfl, n', hlt, hJ'⟩ := hq
    exact ⟨rfl, ⟨n', hJ'⟩, Nat.lt_of_le_of_lt ((leastOf_spec ⟨n', hJ'⟩).2 n' hJ') hlt⟩
  | normal => exact hq
  | exit id => exact hq
  | ret => exact hq
  | panic ch => exact hq
  | outgrown => exact hq
end

/-- Where a call of Matches on a class leads, whatever the world in which the class lies. -/
theorem ClAt.meetsAll {X : Nat → Prop} {w : World} {c : Cl} {v : Value} (h : ClAt X w c v) : ∃ T a f, v = .iface T (.pointer a) ∧ (∀ (n : Nat) (w : World), (method (n + 1) T (.pointer a) "Matches").run Tryf.prog w = .ok (f, .pointer a) w) ∧ (∀ (args : Array Value) (w : World), (callFunc f args).run Tryf.prog w = .ok (.enter f args) w) ∧
    ∀ (w' : World) (X' : Nat → Prop), ClAt X' w' c v → ∀ ch : Int, Calls Tryf.prog f #[.pointer a, .int .i64 ch] w' fun e' w'' => e' = .returned (.bool (c.has ch)) ∧ w' = w'' := by
  cases c with
  | dot => obtain ⟨b, rfl⟩ := h; exact ⟨_, _, _, rfl, fun n w => m_dot n _ w, e_dot, fun w' X' h' ch => dotM_any _ ch w'⟩
  | el e =>
    cases e with
    | chr z => obtain ⟨b, rfl, _, hb⟩ := h; exact ⟨_, _, _, rfl, fun n w => m_chr n _ w, e_chr, fun w' X' h' ch => by obtain ⟨b', hv, _, hb'⟩ := h'; cases hv; exact chrM_any ch (blk_cell hb' 0 _ rfl)⟩
    | sgl z => obtain ⟨b, rfl, _, hb⟩ := h; exact ⟨_, _, _, rfl, fun n w => m_sgl n _ w, e_sgl, fun w' X' h' ch => by obtain ⟨b', hv, _, hb'⟩ := h'; cases hv; exact single_any z ch _ _ (blk_cell hb' 0 _ rfl)⟩
    | rng x y => obtain ⟨b, vx, vy, rfl, _, hb, hx, hy⟩ := h; exact ⟨_, _, _, rfl, fun n w => m_rng n _ w, e_rng, fun w' X' h' ch => by obtain ⟨b', vx', vy', hv, _, hb', hx', hy'⟩ := h'; cases hv; exact rngM_any ch hb' hx' hy'⟩
  | set neg l => obtain ⟨b, ao, cap, vs, rfl, _, hb, ho, _, hs⟩ := h; exact ⟨_, _, _, rfl, fun n w => m_set n _ w, e_set, fun w' X' h' ch => by obtain ⟨b', ao', cap', vs', hv, _, hb', ho', _, hs'⟩ := h'; cases hv; exact setM_any ch hb' ho' hs' (owns_max ho')⟩

/-- The slots of captures are not too great. -/
def slotOk : Ins → Prop
  | .save k => k ≤ 1073741820
  | .psave k => k ≤ 1073741820
  | _ => True
/-- What the machine reads and never writes: the source, the program; none of their blocks is one of X. -/
structure VEnv (w : World) (X : Nat → Prop) (sao : Option Addr) (zs : List Int) (iao : Option Addr) (icap : Nat) (I : List Ins) (ys : List Value) : Prop where
  src : RowInt .u8 w sao zs
  srcX : 0 < zs.length → ∀ x, sao = some x → ¬ X x.block
  own : w.ownsRow 0 123 4 (.slice iao I.length icap) I.length ys
  ownX : ∀ g, blkOf iao = some g → ¬ X g
  els : InssAt X w I ys
  byte : ∀ z, z ∈ zs → 0 ≤ z ∧ z ≤ 255
  len : zs.length ≤ 1048576
  slots : ∀ i, i ∈ I → slotOk i
theorem VEnv.moved {w w' : World} {m : Nat} {ao ao' : Option Addr} {sao : Option Addr} {zs : List Int} {iao : Option Addr} {icap : Nat} {I : List Ins} {ys : List Value} (h : VEnv w (CX m ao) sao zs iao icap I ys) (hm : Moved w w' m ao ao') (hs : 0 < zs.length → ∀ x, sao = some x → x.block < w.heap.size) : VEnv w' (CX m ao') sao zs iao icap I ys := by
  refine ⟨fun h0 => ?_, fun h0 x hx => hm.notX (hs h0 x hx) (h.srcX h0 x hx), hm.row0 h.own h.ownX, fun g hg => hm.notX (owns_lt h.own g hg).2 (h.ownX g hg), h.els.kept hm.keeps hm.back, h.byte, h.len, h.slots⟩
  obtain ⟨sb, so, h1, h2⟩ := h.src h0
  refine ⟨sb, so, h1, fun i hi => ?_⟩
  have hX := h.srcX h0 _ h1
  exact (World.cell?_of_block (hm.block sb (hs h0 _ h1) (fun e => hX (.inl e)) (fun e => hX (.inr e.symm)))).trans (h2 i hi)

def firstScope : Code → Option Code
  | .scope c => some c
  | .seq a b => match firstScope a with
    | some c => some c
    | none => firstScope b
  | .block _ c => firstScope c
  | .loop c => firstScope c
  | .cond _ a b => match firstScope a with
    | some c => some c
    | none => firstScope b
  | _ => none
/-- The machine's text from its label on. -/
def dropSkip : Code → Code
  | .seq .skip b => b
  | c => c
noncomputable def vmRest : Code := dropSkip (((Tryf.f21.body.bind firstScope).bind (fun c => findLabel c 0)).getD .skip)
theorem wp_skip_seq {P : Program} {c : Code} {Q : Exit → Act → World → Prop} {a : Act} {w : World} (h : c.wp P Q a w) : (Code.seq .skip c).wp P Q a w := wp_seq (wp_skip h)
/-- The frame at the label. -/
structure VFr (sao : Option Addr) (n scap : Nat) (iao : Option Addr) (k icap pc sp rc m : Nat) (a : Act) : Prop where
  df : a.defers = []
  sz : a.tmps.size = 257
  s0 : a.tmps[0]? = some (.slice sao n scap)
  s1 : a.tmps[1]? = some (.slice iao k icap)
  s2 : a.tmps[2]? = some (.int .i64 pc)
  s3 : a.tmps[3]? = some (.int .i64 sp)
  s4 : a.tmps[4]? = some (.int .i64 rc)
  s15 : a.tmps[15]? = some (.pointer (some ⟨m, 0, none⟩))
theorem vm_arr (xs : Array Value) (n : Nat) (h : xs.size = n) (g : Nat → Value) (hg : ∀ k, k < n → xs[k]? = some (g k)) : xs = ((List.range n).map g).toArray := by
  apply Array.ext
  · simp [h]
  · intro i h1 h2
    have := hg i (by omega)
    rw [Array.getElem?_eq_getElem h1] at this
    simpa using this
set_option maxRecDepth 1000000 in
theorem vm_range (g : Nat → Value) : ((List.range 257).map g).toArray = #[g 0, g 1, g 2, g 3, g 4, g 5, g 6, g 7, g 8, g 9, g 10, g 11, g 12, g 13, g 14, g 15, g 16, g 17, g 18, g 19, g 20, g 21, g 22, g 23, g 24, g 25, g 26, g 27, g 28, g 29, g 30, g 31, g 32, g 33, g 34, g 35, g 36, g 37, g 38, g 39, g 40, g 41, g 42, g 43, g 44, g 45, g 46, g 47, g 48, g 49, g 50, g 51, g 52, g 53, g 54, g 55, g 56, g 57, g 58, g 59, g 60, g 61, g 62, g 63, g 64, g 65, g 66, g 67, g 68, g 69, g 70, g 71, g 72, g 73, g 74, g 75, g 76, g 77, g 78, g 79, g 80, g 81, g 82, g 83, g 84, g 85, g 86, g 87, g 88, g 89, g 90, g 91, g 92, g 93, g 94, g 95, g 96, g 97, g 98, g 99, g 100, g 101, g 102, g 103, g 104, g 105, g 106, g 107, g 108, g 109, g 110, g 111, g 112, g 113, g 114, g 115, g 116, g 117, g 118, g 119, g 120, g 121, g 122, g 123, g 124, g 125, g 126, g 127, g 128, g 129, g 130, g 131, g 132, g 133, g 134, g 135, g 136, g 137, g 138, g 139, g 140, g 141, g 142, g 143, g 144, g 145, g 146, g 147, g 148, g 149, g 150, g 151, g 152, g 153, g 154, g 155, g 156, g 157, g 158, g 159, g 160, g 161, g 162, g 163, g 164, g 165, g 166, g 167, g 168, g 169, g 170, g 171, g 172, g 173, g 174, g 175, g 176, g 177, g 178, g 179, g 180, g 181, g 182, g 183, g 184, g 185, g 186, g 187, g 188, g 189, g 190, g 191, g 192, g 193, g 194, g 195, g 196, g 197, g 198, g 199, g 200, g 201, g 202, g 203, g 204, g 205, g 206, g 207, g 208, g 209, g 210, g 211, g 212, g 213, g 214, g 215, g 216, g 217, g 218, g 219, g 220, g 221, g 222, g 223, g 224, g 225, g 226, g 227, g 228, g 229, g 230, g 231, g 232, g 233, g 234, g 235, g 236, g 237, g 238, g 239, g 240, g 241, g 242, g 243, g 244, g 245, g 246, g 247, g 248, g 249, g 250, g 251, g 252, g 253, g 254, g 255, g 256] := by kernel_rfl
set_option maxRecDepth 1000000 in
theorem vm_lit (xs : Array Value) (h : xs.size = 257) {v0 v1 v2 v3 v4 v15 : Value} (h0 : xs[0]? = some v0) (h1 : xs[1]? = some v1) (h2 : xs[2]? = some v2) (h3 : xs[3]? = some v3) (h4 : xs[4]? = some v4) (h15 : xs[15]? = some v15) : ∃ f : Nat → Value, xs = #[v0, v1, v2, v3, v4, f 5, f 6, f 7, f 8, f 9, f 10, f 11, f 12, f 13, f 14, v15, f 16, f 17, f 18, f 19, f 20, f 21, f 22, f 23, f 24, f 25, f 26, f 27, f 28, f 29, f 30, f 31, f 32, f 33, f 34, f 35, f 36, f 37, f 38, f 39, f 40, f 41, f 42, f 43, f 44, f 45, f 46, f 47, f 48, f 49, f 50, f 51, f 52, f 53, f 54, f 55, f 56, f 57, f 58, f 59, f 60, f 61, f 62, f 63, f 64, f 65, f 66, f 67, f 68, f 69, f 70, f 71, f 72, f 73, f 74, f 75, f 76, f 77, f 78, f 79, f 80, f 81, f 82, f 83, f 84, f 85, f 86, f 87, f 88, f 89, f 90, f 91, f 92, f 93, f 94, f 95, f 96, f 97, f 98, f 99, f 100, f 101, f 102, f 103, f 104, f 105, f 106, f 107, f 108, f 109, f 110, f 111, f 112, f 113, f 114, f 115, f 116, f 117, f 118, f 119, f 120, f 121, f 122, f 123, f 124, f 125, f 126, f 127, f 128, f 129, f 130, f 131, f 132, f 133, f 134, f 135, f 136, f 137, f 138, f 139, f 140, f 141, f 142, f 143, f 144, f 145, f 146, f 147, f 148, f 149, f 150, f 151, f 152, f 153, f 154, f 155, f 156, f 157, f 158, f 159, f 160, f 161, f 162, f 163, f 164, f 165, f 166, f 167, f 168, f 169, f 170, f 171, f 172, f 173, f 174, f 175, f 176, f 177, f 178, f 179, f 180, f 181, f 182, f 183, f 184, f 185, f 186, f 187, f 188, f 189, f 190, f 191, f 192, f 193, f 194, f 195, f 196, f 197, f 198, f 199, f 200, f 201, f 202, f 203, f 204, f 205, f 206, f 207, f 208, f 209, f 210, f 211, f 212, f 213, f 214, f 215, f 216, f 217, f 218, f 219, f 220, f 221, f 222, f 223, f 224, f 225, f 226, f 227, f 228, f 229, f 230, f 231, f 232, f 233, f 234, f 235, f 236, f 237, f 238, f 239, f 240, f 241, f 242, f 243, f 244, f 245, f 246, f 247, f 248, f 249, f 250, f 251, f 252, f 253, f 254, f 255, f 256] := by
  have hf : ∀ k, k < 257 → xs[k]? = some (xs.getD k .nilIface) := fun k hk => by
    rw [Array.getD_eq_getD_getElem?, Array.getElem?_eq_getElem (by omega)]; rfl
  refine ⟨fun k => xs.getD k .nilIface, ?_⟩
  have e := (vm_arr xs 257 h _ hf).trans (vm_range _)
  have e0 : xs.getD 0 .nilIface = v0 := by rw [Array.getD_eq_getD_getElem?, h0]; rfl
  have e1 : xs.getD 1 .nilIface = v1 := by rw [Array.getD_eq_getD_getElem?, h1]; rfl
  have e2 : xs.getD 2 .nilIface = v2 := by rw [Array.getD_eq_getD_getElem?, h2]; rfl
  have e3 : xs.getD 3 .nilIface = v3 := by rw [Array.getD_eq_getD_getElem?, h3]; rfl
  have e4 : xs.getD 4 .nilIface = v4 := by rw [Array.getD_eq_getD_getElem?, h4]; rfl
  have e15 : xs.getD 15 .nilIface = v15 := by rw [Array.getD_eq_getD_getElem?, h15]; rfl
  subst e0 e1 e2 e3 e4 e15
  exact e
/-- The machine's ways out: matched or not, the place, the captures. -/
def VQ (w0 : World) (m : Nat) (ao0 : Option Addr) (r : Bool × Nat × List Int) : Exit → Act → World → Prop
  | .ret, a, w' => a.defers = [] ∧ a.tmps[12]? = some (.bool r.1) ∧ a.tmps[13]? = some (.int .i64 r.2.1) ∧ a.tmps[14]? = some (.pointer (some ⟨m, 0, none⟩)) ∧ ∃ ao' cap', MD w' m ao' cap' r.2.2 ∧ Moved w0 w' m ao0 ao'
  | _, _, _ => False
/-- What holds at the label, so many jumps at most to come. -/
def VJ (w0 : World) (m : Nat) (ao0 : Option Addr) (sao : Option Addr) (scap : Nat) (zs : List Int) (iao : Option Addr) (icap : Nat) (I : List Ins) (ys : List Value) (rc d : Nat) (r : Bool × Nat × List Int) (n : Nat) (a : Act) (w : World) : Prop :=
  ∃ (pc sp : Nat) (us : List Int) (ao : Option Addr) (cap : Nat), VFr sao zs.length scap iao I.length icap pc sp rc m a ∧ VEnv w (CX m ao) sao zs iao icap I ys ∧ MD w m ao cap us ∧ Moved w0 w m ao0 ao ∧ VRun zs I d n pc sp us r ∧ sp ≤ zs.length ∧ zs.length ≤ scap
/-- What a call of the machine gives. -/
def VPost (w : World) (m : Nat) (ao : Option Addr) (r : Bool × Nat × List Int) (e : Ending) (w' : World) : Prop :=
  ∃ ao' cap', e = .returned (.tuple #[.bool r.1, .int .i64 r.2.1, .pointer (some ⟨m, 0, none⟩)]) ∧ MD w' m ao' cap' r.2.2 ∧ Moved w w' m ao ao'
/-- The contract of a call with the caller's MatchData, the recursion at most so deep. -/
def VSpec (d : Nat) : Prop := ∀ (w : World) (m g : Nat) (ao : Option Addr) (cap : Nat) (us : List Int) (sao : Option Addr) (scap : Nat) (zs : List Int) (iao : Option Addr) (icap : Nat) (I : List Ins) (ys : List Value) (n pc sp rc : Nat) (r : Bool × Nat × List Int),
  VEnv w (CX m ao) sao zs iao icap I ys → (0 < zs.length → ∀ x, sao = some x → x.block < w.heap.size) → MD w m ao cap us → w.cell? ⟨g, 0, none⟩ = some (.pointer (some ⟨m, 0, none⟩)) → VRun zs I d n pc sp us r → sp ≤ zs.length → zs.length ≤ scap → rc + 1 + d ≤ 1000000 →
  Calls Tryf.prog 21 #[.slice sao zs.length scap, .slice iao I.length icap, .int .i64 pc, .int .i64 sp, .int .i64 rc, .slice (some ⟨g, 0, none⟩) 1 1] w (VPost w m ao r)
theorem MD.allocO {w : World} {m : Nat} {ao : Option Addr} {cap : Nat} {us : List Int} (h : MD w m ao cap us) (o : Obj) : MD (w.alloc o) m ao cap us :=
  h.kept (Below.heap_alloc w o m h.lt) (fun g hg => Below.heap_alloc w o g (h.row' g hg).2)
theorem MD.drewO {w : World} {m : Nat} {ao : Option Addr} {cap : Nat} {us : List Int} (h : MD w m ao cap us) (n : Nat) : MD (w.drewN n) m ao cap us := h.kept rfl (fun _ _ => rfl)
/-- The contract at integers that are known to be the numbers. -/
theorem VSpec.use {d : Nat} (h : VSpec d) {w : World} {m g : Nat} {ao : Option Addr} {cap : Nat} {us : List Int} {sao : Option Addr} {scap : Nat} {zs : List Int} {iao : Option Addr} {icap : Nat} {I : List Ins} {ys : List Value} {n pc sp rc : Nat} {r : Bool × Nat × List Int} {pz : Int} (hz : pz = (pc : Int))
    (h1 : VEnv w (CX m ao) sao zs iao icap I ys) (h2 : 0 < zs.length → ∀ x, sao = some x → x.block < w.heap.size) (h3 : MD w m ao cap us) (h4 : w.cell? ⟨g, 0, none⟩ = some (.pointer (some ⟨m, 0, none⟩))) (h5 : VRun zs I d n pc sp us r) (h6 : sp ≤ zs.length) (h7 : zs.length ≤ scap) (h8 : rc + 1 + d ≤ 1000000) :
    Calls Tryf.prog 21 #[.slice sao zs.length scap, .slice iao I.length icap, .int .i64 pz, .int .i64 sp, .int .i64 rc, .slice (some ⟨g, 0, none⟩) 1 1] w (VPost w m ao r) := by
  subst hz
  exact h w m g ao cap us sao scap zs iao icap I ys n pc sp rc r h1 h2 h3 h4 h5 h6 h7 h8
/-- The frame and the state at the next pass. -/
theorem vj_mk {w0 w : World} {m : Nat} {ao0 ao : Option Addr} {cap : Nat} {us : List Int} {sao : Option Addr} {scap : Nat} {zs : List Int} {iao : Option Addr} {icap : Nat} {I : List Ins} {ys : List Value} {rc d n pc sp : Nat} {r : Bool × Nat × List Int} {a : Act} {pz sz : Int} (hpz : pz = (pc : Int)) (hsz : sz = (sp : Int))
    (df : a.defers = []) (sz' : a.tmps.size = 257) (s0 : a.tmps[0]? = some (.slice sao zs.length scap)) (s1 : a.tmps[1]? = some (.slice iao I.length icap)) (s2 : a.tmps[2]? = some (.int .i64 pz)) (s3 : a.tmps[3]? = some (.int .i64 sz)) (s4 : a.tmps[4]? = some (.int .i64 rc)) (s15 : a.tmps[15]? = some (.pointer (some ⟨m, 0, none⟩)))
    (h1 : VEnv w (CX m ao) sao zs iao icap I ys) (h2 : MD w m ao cap us) (h3 : Moved w0 w m ao0 ao) (h4 : VRun zs I d n pc sp us r) (h5 : sp ≤ zs.length) (h6 : zs.length ≤ scap) : VJ w0 m ao0 sao scap zs iao icap I ys rc d r n a w := by
  subst hpz hsz
  exact ⟨pc, sp, us, ao, cap, ⟨df, sz', s0, s1, s2, s3, s4, s15⟩, h1, h2, h3, h4, h5, h6⟩
/-- The instruction's four cells. -/
theorem VEnv.ins {w : World} {X : Nat → Prop} {sao : Option Addr} {zs : List Int} {iao : Option Addr} {icap : Nat} {I : List Ins} {ys : List Value} (h : VEnv w X sao zs iao icap I ys) {pc : Nat} {i : Ins} (hi : I[pc]? = some i) : ∃ (ig : Nat) (xs : List Value), iao = some ⟨ig, 0, none⟩ ∧ InsAt X w i xs ∧ pc < I.length ∧ I.length ≤ 9223372036854775807 ∧
    w.cell? ⟨ig, pc * 4, none⟩ = xs[0]? ∧ w.cell? ⟨ig, pc * 4 + 1, none⟩ = xs[1]? ∧ w.cell? ⟨ig, pc * 4 + 2, none⟩ = xs[2]? ∧ w.cell? ⟨ig, pc * 4 + 3, none⟩ = xs[3]? := by
  have hlt : pc < I.length := (List.getElem?_eq_some_iff.1 hi).1
  obtain ⟨xs, h1, h2⟩ := h.els.get pc i hi
  have hmx : I.length ≤ 9223372036854775807 := by
    rcases h.own.2 with ⟨_, h2⟩ | ⟨g', c, cur, h1, hb, hg, hn, hm, _⟩
    · omega
    · unfold maxLen at hm; omega
  obtain ⟨ig, rfl⟩ : ∃ ig, iao = some ⟨ig, 0, none⟩ := by
    rcases h.own.2 with ⟨_, h2⟩ | ⟨g, c', cur, h1, _⟩
    · omega
    · simp only [Value.slice.injEq] at h1; exact ⟨g, h1.1⟩
  refine ⟨ig, xs, rfl, h1, hlt, hmx, ?_, ?_, ?_, ?_⟩
  · exact (h.own.cellAt (pc * 4) (by omega)).trans (h2 0 (by omega))
  · exact (h.own.cellAt (pc * 4 + 1) (by omega)).trans (h2 1 (by omega))
  · exact (h.own.cellAt (pc * 4 + 2) (by omega)).trans (h2 2 (by omega))
  · exact (h.own.cellAt (pc * 4 + 3) (by omega)).trans (h2 3 (by omega))
theorem byteAt_lt {zs : List Int} {i : Nat} (h : i < zs.length) : byteAt zs i = zs.getD i 0 := by unfold byteAt; rw [if_pos h]

end Go.Proofs.YtcfhhcjcnafcjaaFmt
