/-
  Classes as they lie in memory; the plain models of sets; elements of sets parsed. Conditions as each statement says.
-/
import Derived.Test.YtcfhhcjcnafcjaaFmtSingle
import Derived.Test.YtcfhhcjcnafcjaaFmtBase
import Derived.Deep.RegionWith
import Derived.WalkLawsBesides
import Derived.Deep.LoopGhost
import Derived.Deep.RegionHeld3
import Derived.Deep.AppendLies
import Derived.ScopeJumps
import Derived.Deep.CutRange
import Derived.Deep.DeepCutAuto
import Derived.Outline
import Derived.Deep.RegionLaw
namespace Go.Proofs.YtcfhhcjcnafcjaaFmt
open Go.RowKit
set_option linter.unusedVariables false
set_option linter.unusedSimpArgs false


/-- An element of a set: one character, a %-class, a range. -/
inductive El where
  | chr (c : Int)
  | sgl (c : Int)
  | rng (b e : El)
/-- A class. -/
inductive Cl where
  | dot
  | el (e : El)
  | set (neg : Bool) (l : List El)

def El.has : El → Int → Bool
  | .chr c, ch => c == ch
  | .sgl c, ch => singB c ch
  | .rng (.chr b) (.chr e), ch => decide (b ≤ ch) && decide (ch ≤ e)
  | .rng _ _, _ => false
def Cl.has : Cl → Int → Bool
  | .dot, _ => true
  | .el e, ch => e.has ch
  | .set neg l, ch => if l.any (fun e => e.has ch) then !neg else neg

/-- The value v is the element in the world w; none of its blocks is one of X. -/
def ElAt (X : Nat → Prop) (w : World) : El → Value → Prop
  | .chr c, v => ∃ b, v = .iface 112 (.pointer (some ⟨b, 0, none⟩)) ∧ ¬ X b ∧ w.heap[b]? = some (.cells #[.int .i64 c] 114 (0, 0))
  | .sgl c, v => ∃ b, v = .iface 132 (.pointer (some ⟨b, 0, none⟩)) ∧ ¬ X b ∧ w.heap[b]? = some (.cells #[.int .i64 c] 134 (0, 0))
  | .rng x y, v => ∃ b vx vy, v = .iface 143 (.pointer (some ⟨b, 0, none⟩)) ∧ ¬ X b ∧ w.heap[b]? = some (.cells #[vx, vy] 145 (0, 0)) ∧ ElAt X w x vx ∧ ElAt X w y vy

theorem ElAt.kept {X Y : Nat → Prop} {w w' : World} : ∀ {e : El} {v : Value}, ElAt X w e v → (∀ k o, ¬ X k → w.heap[k]? = some o → w'.heap[k]? = some o) → (∀ k, k < w.heap.size → Y k → X k) → ElAt Y w' e v
  | .chr c, v, ⟨b, h1, h2, h3⟩, hk, hX => ⟨b, h1, fun hy => h2 (hX b (blk_lt h3) hy), hk b _ h2 h3⟩
  | .sgl c, v, ⟨b, h1, h2, h3⟩, hk, hX => ⟨b, h1, fun hy => h2 (hX b (blk_lt h3) hy), hk b _ h2 h3⟩
  | .rng x y, v, ⟨b, vx, vy, h1, h2, h3, h4, h5⟩, hk, hX => ⟨b, vx, vy, h1, fun hy => h2 (hX b (blk_lt h3) hy), hk b _ h2 h3, h4.kept hk hX, h5.kept hk hX⟩

/-- Elements one after the other. -/
inductive ElsAt (X : Nat → Prop) (w : World) : List El → List Value → Prop
  | nil : ElsAt X w [] []
  | cons {e v es vs} : ElAt X w e v → ElsAt X w es vs → ElsAt X w (e :: es) (v :: vs)

theorem ElsAt.kept {X Y : Nat → Prop} {w w' : World} {es : List El} {vs : List Value} (h : ElsAt X w es vs) (hk : ∀ k o, ¬ X k → w.heap[k]? = some o → w'.heap[k]? = some o) (hX : ∀ k, k < w.heap.size → Y k → X k) : ElsAt Y w' es vs := by
  induction h with
  | nil => exact .nil
  | cons h1 _ ih => exact .cons (h1.kept hk hX) ih
theorem ElsAt.length {X : Nat → Prop} {w : World} {es : List El} {vs : List Value} (h : ElsAt X w es vs) : vs.length = es.length := by
  induction h with
  | nil => rfl
  | cons _ _ ih => simp [ih]
theorem ElsAt.append {X : Nat → Prop} {w : World} {es fs : List El} {vs us : List Value} (h : ElsAt X w es vs) (k : ElsAt X w fs us) : ElsAt X w (es ++ fs) (vs ++ us) := by
  induction h with
  | nil => exact k
  | cons h1 _ ih => exact .cons h1 ih
theorem ElsAt.get {X : Nat → Prop} {w : World} {es : List El} {vs : List Value} (h : ElsAt X w es vs) : ∀ (i : Nat) (e : El), es[i]? = some e → ∃ v, vs[i]? = some v ∧ ElAt X w e v := by
  induction h with
  | nil => intro i e h; simp at h
  | cons h1 _ ih =>
    intro i e h
    cases i with
    | zero => simp at h; subst h; exact ⟨_, rfl, h1⟩
    | succ i => simpa using ih i e (by simpa using h)
theorem ElsAt.take {X : Nat → Prop} {w : World} {es : List El} {vs : List Value} (h : ElsAt X w es vs) : ∀ n, ElsAt X w (es.take n) (vs.take n) := by
  induction h with
  | nil => intro n; simpa using ElsAt.nil
  | cons h1 _ ih =>
    intro n
    cases n with
    | zero => exact .nil
    | succ n => exact .cons h1 (ih n)

/-- The value v is the class in the world w; none of its blocks is one of X. -/
def ClAt (X : Nat → Prop) (w : World) : Cl → Value → Prop
  | .dot, v => ∃ b, v = .iface 135 (.pointer (some ⟨b, 0, none⟩))
  | .el e, v => ElAt X w e v
  | .set neg l, v => ∃ b ao cap vs, v = .iface 139 (.pointer (some ⟨b, 0, none⟩)) ∧ ¬ X b ∧ w.heap[b]? = some (.cells #[.bool neg, .slice ao l.length cap] 142 (0, 0)) ∧
      w.ownsRow 0 97 1 (.slice ao l.length cap) l.length vs ∧ (∀ g, blkOf ao = some g → ¬ X g) ∧ ElsAt X w l vs

theorem owns_kept {w w' : World} {B : Nat} {T : TypeId} {sz : Nat} {ao : Option Addr} {n cap : Nat} {xs : List Value} (ho : w.ownsRow B T sz (.slice ao n cap) n xs) (hk : ∀ g o, blkOf ao = some g → w.heap[g]? = some o → w'.heap[g]? = some o) : w'.ownsRow B T sz (.slice ao n cap) n xs := by
  refine ⟨ho.1, ?_⟩
  rcases ho.2 with h2 | ⟨g, c, cur, h1, hb, hg, r⟩
  · exact .inl h2
  · refine .inr ⟨g, c, cur, h1, hb, hk g _ ?_ hg, r⟩
    simp only [Value.slice.injEq] at h1
    rw [h1.1]; rfl
theorem owns_lt {w : World} {B : Nat} {T : TypeId} {sz : Nat} {ao : Option Addr} {n cap : Nat} {xs : List Value} (ho : w.ownsRow B T sz (.slice ao n cap) n xs) : ∀ g, blkOf ao = some g → B ≤ g ∧ g < w.heap.size := by
  intro g hg
  rcases ho.2 with ⟨h1, h2⟩ | ⟨g', c', cur, h1, hb, hh, _⟩
  · simp only [Value.slice.injEq] at h1; rw [h1.1] at hg; simp [blkOf] at hg
  · simp only [Value.slice.injEq] at h1
    rw [h1.1] at hg
    simp only [blkOf, Option.map_some, Option.some.injEq] at hg
    subst hg
    exact ⟨hb, blk_lt hh⟩

theorem ClAt.kept {X Y : Nat → Prop} {w w' : World} {c : Cl} {v : Value} (h : ClAt X w c v) (hk : ∀ k o, ¬ X k → w.heap[k]? = some o → w'.heap[k]? = some o) (hX : ∀ k, k < w.heap.size → Y k → X k) : ClAt Y w' c v := by
  cases c with
  | dot => exact h
  | el e => exact ElAt.kept h hk hX
  | set neg l =>
    obtain ⟨b, ao, cap, vs, h1, h2, h3, h4, h5, h6⟩ := h
    exact ⟨b, ao, cap, vs, h1, fun hy => h2 (hX b (blk_lt h3) hy), hk b _ h2 h3, owns_kept h4 (fun g o hg ho => hk g o (h5 g hg) ho), fun g hg hy => h5 g hg (hX g (owns_lt h4 g hg).2 hy), h6.kept hk hX⟩

/-! ### Matches, class by class -/

theorem dotM_any (a : Option Addr) (ch : Int) (w : World) :
    Calls Tryf.prog 59 #[.pointer a, .int .i64 ch] w fun e w' => e = .returned (.bool true) ∧ w = w' := by
  go_enter Tryf.func59, Tryf.ntmps59
  go_wp2
  go_ret
  exact ⟨rfl, rfl⟩

theorem chrM_any {b : Nat} {c : Int} (ch : Int) {w : World} (hc : w.cell? ⟨b, 0, none⟩ = some (.int .i64 c)) :
    Calls Tryf.prog 57 #[.pointer (some ⟨b, 0, none⟩), .int .i64 ch] w fun e w' => e = .returned (.bool (c == ch)) ∧ w = w' := by
  go_enter Tryf.func57, Tryf.ntmps57
  go_wp2
  go_ret
  exact ⟨rfl, rfl⟩



/-- One element at the cursor c (not at the end): the element, the cursor behind it. -/
def elem (zs : List Int) (c : Nat) : El × Nat :=
  if chr zs c = 37 then (.sgl (chr zs (c + 1)), c + 2) else (.chr (chr zs c), c + 1)
theorem elem_lt (zs : List Int) (c : Nat) : c < (elem zs c).2 ∧ (elem zs c).2 ≤ c + 2 := by
  unfold elem; split <;> simp

/-- The last element made the begin of a range. -/
def rangeUp (acc : List El) (e : El) : List El := acc.dropLast ++ [.rng (acc.getLast?.getD (.chr 0)) e]
/-- The loop of a set's parser: the elements so far, whether a '-' waits. -/
def setLoop (zs : List Int) (c : Nat) (acc : List El) (isr : Bool) : Option (List El × Bool × Nat) :=
  if zs.length ≤ c then none
  else if chr zs c = 93 ∧ acc ≠ [] then some (acc, isr, c + 1)
  else if chr zs c = 45 ∧ acc ≠ [] then setLoop zs (c + 1) acc true
  else setLoop zs (elem zs c).2 (if isr then rangeUp acc (elem zs c).1 else acc ++ [(elem zs c).1]) false
termination_by zs.length - c
decreasing_by
  · omega
  · have := elem_lt zs c; omega

/-- The elements of the set at its end. -/
def setFin (acc : List El) (isr : Bool) : List El := if isr then acc ++ [.chr 45] else acc
def parseSet (zs : List Int) (c : Nat) : Option (Cl × Nat) :=
  if chr zs c = 94 then (setLoop zs (c + 1) [] false).map fun r => (.set true (setFin r.1 r.2.1), r.2.2)
  else (setLoop zs c [] false).map fun r => (.set false (setFin r.1 r.2.1), r.2.2)
/-- The class at the cursor c; none: an error is raised. -/
def parseCls (zs : List Int) (c : Nat) : Option (Cl × Nat) :=
  if zs.length ≤ c then none
  else if chr zs c = 37 then some (.el (.sgl (chr zs (c + 1))), c + 2)
  else if chr zs c = 46 then some (.dot, c + 1)
  else if chr zs c = 91 then parseSet zs (c + 1)
  else some (.el (.chr (chr zs c)), c + 1)

theorem setLoop_lt {zs : List Int} {c : Nat} {acc : List El} {isr : Bool} {r : List El × Bool × Nat} (h : setLoop zs c acc isr = some r) : c < r.2.2 ∧ r.2.2 ≤ zs.length + 1 := by
  fun_induction setLoop zs c acc isr with
  | case1 => simp at h
  | case2 c acc isr h1 h2 => simp only [Option.some.injEq] at h; subst h; exact ⟨Nat.lt_succ_self _, by simp; omega⟩
  | case3 c acc isr h1 h2 h3 ih => have := ih h; omega
  | case4 c acc isr h1 h2 h3 ih => have := ih h; have := elem_lt zs c; omega
theorem parseSet_lt {zs : List Int} {c : Nat} {r : Cl × Nat} (h : parseSet zs c = some r) : c < r.2 ∧ r.2 ≤ zs.length + 1 := by
  unfold parseSet at h
  split at h
  all_goals
    simp only [Option.map_eq_some_iff] at h
    obtain ⟨x, hx, rfl⟩ := h
    have := setLoop_lt hx
    simp only
    omega
theorem parseCls_lt {zs : List Int} {c : Nat} {r : Cl × Nat} (h : parseCls zs c = some r) : c < r.2 ∧ r.2 ≤ zs.length + 1 := by
  unfold parseCls at h
  split at h
  · simp at h
  split at h
  · simp only [Option.some.injEq] at h; subst h; simp; omega
  split at h
  · simp only [Option.some.injEq] at h; subst h; simp; omega
  split at h
  · have := parseSet_lt h; omega
  · simp only [Option.some.injEq] at h; subst h; simp; omega



section
variable {w : World} {b : Nat} {ao : Option Addr} {cap : Nat} {zs : List Int} {c s : Nat}

theorem Scan.grownAlloc {w' : World} (h : Scan w' b ao cap zs c s) (o : Obj) : Scan (w'.alloc o) b ao cap zs c s :=
  h.kept (row := none) (one_alloc (one_refl w' none) o) (by simp) (by simp)
theorem Scan.lt {w : World} (h : Scan w b ao cap zs c s) : b < w.heap.size := blk_lt h.blk
theorem chr_mem {zs : List Int} (hb : ∀ z, z ∈ zs → 0 ≤ z ∧ z ≤ 255) {c : Nat} (hc : c < zs.length) : 0 ≤ chr zs c ∧ chr zs c ≤ 255 := by
  unfold chr; rw [if_pos hc]; exact getD_byte hb c
theorem next_at (h : Scan w b ao cap zs c s) (hc : c ≤ zs.length) {z : Int} (hz : chr zs c = z) :
    Calls Tryf.prog 25 #[.pointer (some ⟨b, 0, none⟩)] w fun e w' => e = .returned (.int .i64 z) ∧ Scan w' b ao cap zs (c + 1) s ∧ w.grownBy w' (some b) :=
  (next_any h).mono fun e w' ⟨h1, h2, h3⟩ => ⟨by rw [← hz]; exact h1, by rw [show min (c + 1) (zs.length + 1) = c + 1 by omega] at h2; exact h2, h3⟩
theorem next_top (h : Scan w b ao cap zs c s) (hc : zs.length ≤ c) :
    Calls Tryf.prog 25 #[.pointer (some ⟨b, 0, none⟩)] w fun e w' => e = .returned (.int .i64 (-1)) ∧ Scan w' b ao cap zs (zs.length + 1) s ∧ w.grownBy w' (some b) :=
  (next_any h).mono fun e w' ⟨h1, h2, h3⟩ => ⟨by rw [h1]; unfold chr; rw [if_neg (by omega)], by have := h.cb; rw [show min (c + 1) (zs.length + 1) = zs.length + 1 by omega] at h2; exact h2, h3⟩
theorem peek_at (h : Scan w b ao cap zs c s) (h0 : 0 < zs.length) {z : Int} (hz : chr zs c = z) :
    Calls Tryf.prog 24 #[.pointer (some ⟨b, 0, none⟩)] w fun e w' => e = .returned (.int .i64 z) ∧ Scan w' b ao cap zs c s ∧ w.grownBy w' (some b) :=
  (peek_any h).mono fun e w' ⟨h1, h2, h3⟩ => ⟨by rw [← hz]; exact h1, by rw [show peekC zs.length c = c by unfold peekC; rw [if_neg (by omega)]] at h2; exact h2, h3⟩

/-- What the parser of one element leaves. -/
def ElPost (w : World) (b : Nat) (ao : Option Addr) (cap : Nat) (zs : List Int) (s : Nat) (r : El × Nat) (e : Ending) (w' : World) : Prop :=
  ∃ T a, e = .returned (.iface T (.pointer a)) ∧ ElAt (fun k => k < w.heap.size) w' r.1 (.iface T (.pointer a)) ∧ Scan w' b ao cap zs r.2 s ∧ w.grownBy w' (some b)

theorem elPost_chr {w w1 : World} (z : Int) {c' : Nat} (hs : Scan w1 b ao cap zs c' s) (hg : w.grownBy w1 (some b)) :
    ElPost w b ao cap zs s (.chr z, c') (.returned (.iface 112 (.pointer (some ⟨w1.heap.size, 0, none⟩)))) (w1.alloc (.cells #[.int .i64 z] 114)) :=
  ⟨_, _, rfl, ⟨w1.heap.size, rfl, by have := hg.size; omega, blk_new _ _⟩, hs.grownAlloc _, one_alloc hg _⟩
theorem elPost_sgl {w w1 : World} (z : Int) {c' : Nat} (hs : Scan w1 b ao cap zs c' s) (hg : w.grownBy w1 (some b)) :
    ElPost w b ao cap zs s (.sgl z, c') (.returned (.iface 132 (.pointer (some ⟨w1.heap.size, 0, none⟩)))) (w1.alloc (.cells #[.int .i64 z] 134)) :=
  ⟨_, _, rfl, ⟨w1.heap.size, rfl, by have := hg.size; omega, blk_new _ _⟩, hs.grownAlloc _, one_alloc hg _⟩

set_option maxHeartbeats 1000000 in
theorem parseEl_any (h : Scan w b ao cap zs c s) (hc : c < zs.length) :
    Calls Tryf.prog 30 #[.pointer (some ⟨b, 0, none⟩), .bool false] w (ElPost w b ao cap zs s (elem zs c)) := by
  have hzb := chr_mem h.byte hc
  have HN := Lib.hid (next_at h (by omega) rfl)
  obtain ⟨z, hz⟩ : ∃ z, chr zs c = z := ⟨_, rfl⟩
  rw [hz] at HN hzb
  have hz0 := hzb.1
  rcases (show z = 37 ∨ z = 46 ∨ z = 91 ∨ ((z == 37) = false ∧ (z == 46) = false ∧ (z == 91) = false ∧ (z == -1) = false) by simp; omega) with rfl | rfl | rfl | ⟨n1, n2, n3, n4⟩
  · have he : elem zs c = (.sgl (chr zs (c + 1)), c + 2) := by unfold elem; rw [if_pos hz]
    rw [he]
    clear he hz hzb h
    go_enter Tryf.func30, Tryf.ntmps30
    go_wp2_with fail
    refine HN.out.mono ?_
    rintro e w1 ⟨rfl, hs1, hg1⟩
    have HS := Lib.hid hs1
    have HG := Lib.hid hg1
    clear hs1 hg1
    go_wp2_with fail
    refine (next_at HS.out (by omega) rfl).mono ?_
    rintro e w2 ⟨rfl, hs2, hg2⟩
    have HS2 := Lib.hid hs2
    have HG2 := Lib.hid (one_trans HG.out hg2)
    clear hs2 hg2
    go_wp2_with fail
    go_ret
    exact elPost_sgl _ HS2.out HG2.out
  · have he : elem zs c = (.chr 46, c + 1) := by unfold elem; rw [if_neg (by omega), hz]
    rw [he]
    clear he hz hzb h
    go_enter Tryf.func30, Tryf.ntmps30
    go_wp2_with fail
    refine HN.out.mono ?_
    rintro e w1 ⟨rfl, hs1, hg1⟩
    have HS := Lib.hid hs1
    have HG := Lib.hid hg1
    clear hs1 hg1
    go_wp2_with fail
    go_ret
    exact elPost_chr _ HS.out HG.out
  · have he : elem zs c = (.chr 91, c + 1) := by unfold elem; rw [if_neg (by omega), hz]
    rw [he]
    clear he hz hzb h
    go_enter Tryf.func30, Tryf.ntmps30
    go_wp2_with fail
    refine HN.out.mono ?_
    rintro e w1 ⟨rfl, hs1, hg1⟩
    have HS := Lib.hid hs1
    have HG := Lib.hid hg1
    clear hs1 hg1
    go_wp2_with fail
    go_ret
    exact elPost_chr _ HS.out HG.out
  · have he : elem zs c = (.chr z, c + 1) := by unfold elem; rw [if_neg (by simp at n1; omega), hz]
    rw [he]
    clear he hz hzb h
    go_enter Tryf.func30, Tryf.ntmps30
    go_wp2_with fail
    refine HN.out.mono ?_
    rintro e w1 ⟨rfl, hs1, hg1⟩
    have HS := Lib.hid hs1
    have HG := Lib.hid hg1
    clear hs1 hg1
    go_wp2_with fail
    go_ret
    exact elPost_chr _ HS.out HG.out
end



theorem one_push {a w w2 : World} {g : Nat} {row : Option Nat} (h : a.grownBy w (some g)) (k : w.grownBy w2 row) (hr : ∀ x, row = some x → a.heap.size ≤ x) : a.grownBy w2 (some g) :=
  ⟨k.os.trans h.os, k.tape.trans h.tape, k.output.trans h.output, Nat.le_trans h.size k.size, fun i hi hne => (k.block i (Nat.lt_of_lt_of_le hi h.size) (fun e => by have := hr i e.symm; omega)).trans (h.block i hi hne)⟩


section
variable {P : Program} {a : Act} {w : World} {Q : Exit → Act → World → Prop}
/-- A scope that a goto leaves forward: what stands behind the label is walked from the goto on. -/
theorem wp_scope_exit {c rest : Code} (l : Nat) (hf : findLabel c l = some rest) (hQ : ∀ l a w, ¬ Q (.goto l) a w) (first : c.wp P (Exit.jump l (fun a w => rest.wp P Q a w) Q) a w) : (Code.scope c).wp P Q a w := by
  refine wp_scope_jumps l (fun a w => rest.wp P Q a w) (fun _ _ => 0) hf first ?_
  intro a w h
  refine wp_mono h ?_
  intro e a' w' hq
  cases e with
  | goto l' => exact (hQ _ _ _ hq).elim
  | normal => exact hq
  | exit id => exact hq
  | ret => exact hq
  | panic ch => exact hq
  | outgrown => exact hq
end

theorem class_info : (Tryf.prog.info? 97).map (fun i => (i.zero, i.size, i.bytes)) = some (some .nilIface, 1, 16) := by kernel_rfl

/-- A set under construction at block m; nothing of it lies below B. -/
structure SetO (w : World) (B m : Nat) (neg : Bool) (ao : Option Addr) (cap : Nat) (acc : List El) (vs : List Value) : Prop where
  blk : w.heap[m]? = some (.cells #[.bool neg, .slice ao acc.length cap] 142 (0, 0))
  own : w.ownsRow B 97 1 (.slice ao acc.length cap) acc.length vs
  els : ElsAt (fun k => k < B ∨ k = m ∨ blkOf ao = some k) w acc vs
  hm : B ≤ m

theorem own_type {w : World} {B : Nat} {T : TypeId} {sz : Nat} {ao : Option Addr} {n cap : Nat} {xs : List Value} (ho : w.ownsRow B T sz (.slice ao n cap) n xs) : ∀ g, blkOf ao = some g → ∃ c, w.heap[g]? = some (.cells c T (0, 0)) := by
  intro g' hg'
  rcases ho.2 with ⟨h1, h2⟩ | ⟨g, c, cur, h1, _, hg, _⟩
  · simp only [Value.slice.injEq] at h1
    rw [h1.1] at hg'; simp [blkOf] at hg'
  · simp only [Value.slice.injEq] at h1
    rw [h1.1] at hg'
    simp only [blkOf, Option.map_some, Option.some.injEq] at hg'
    subst hg'
    exact ⟨_, hg⟩
theorem type_ne {w : World} {g m : Nat} {c d : Array Value} {T U : TypeId} {r q : Nat × Nat} (h : w.heap[g]? = some (.cells c T r)) (k : w.heap[m]? = some (.cells d U q)) (hne : T ≠ U) : g ≠ m := by
  rintro rfl
  rw [h] at k
  simp only [Option.some.injEq, Obj.cells.injEq] at k
  exact hne k.2.1

theorem SetO.row {w : World} {B m : Nat} {neg : Bool} {ao : Option Addr} {cap : Nat} {acc : List El} {vs : List Value} (h : SetO w B m neg ao cap acc vs) : ∀ g, blkOf ao = some g → g ≠ m ∧ B ≤ g ∧ g < w.heap.size := by
  intro g hg
  obtain ⟨c, hc⟩ := own_type h.own g hg
  exact ⟨type_ne hc h.blk (by decide), owns_lt h.own g hg⟩

/-- A call that writes the scanner's block alone leaves the set. -/
theorem SetO.call {w w1 : World} {B m b : Nat} {neg : Bool} {ao : Option Addr} {cap : Nat} {acc : List El} {vs : List Value} (h : SetO w B m neg ao cap acc vs) (hg : w.grownBy w1 (some b)) (hb : b < B) : SetO w1 B m neg ao cap acc vs := by
  have keep : ∀ k o, k ≠ b → w.heap[k]? = some o → w1.heap[k]? = some o := fun k o hk ho => blk_grown ho hg (fun e => hk (by injection e))
  have hm := h.hm
  refine ⟨keep m _ (by omega) h.blk, owns_kept h.own (fun g o hgg ho => keep g o (by have := h.row g hgg; omega) ho), h.els.kept (fun k o hX ho => keep k o (fun e => hX (.inl (by omega))) ho) (fun _ _ hX => hX), hm⟩

theorem SetO.drewN {w : World} {B m : Nat} {neg : Bool} {ao : Option Addr} {cap : Nat} {acc : List El} {vs : List Value} (h : SetO w B m neg ao cap acc vs) (n : Nat) : SetO (w.drewN n) B m neg ao cap acc vs :=
  ⟨h.blk, h.own, h.els.kept (fun _ _ _ h => h) (fun _ _ h => h), h.hm⟩
theorem SetO.alloc {w : World} {B m : Nat} {neg : Bool} {ao : Option Addr} {cap : Nat} {acc : List El} {vs : List Value} (h : SetO w B m neg ao cap acc vs) (o : Obj) : SetO (w.alloc o) B m neg ao cap acc vs :=
  ⟨blk_alloc h.blk o, h.own.alloc o, h.els.kept (fun _ _ _ h => blk_alloc h o) (fun _ _ h => h), h.hm⟩

theorem SetO.pushW {W w2 : World} {B m : Nat} {neg : Bool} {ao : Option Addr} {cap : Nat} {acc : List El} {vs : List Value} {e : El} {v : Value} {g' cap' : Nat} (h : SetO W B m neg ao cap acc vs) (he : ElAt (fun k => k < B ∨ k = m ∨ blkOf ao = some k) W e v)
    (hg : W.grownBy w2 (blkOf ao)) (hown : w2.ownsRow B 97 1 (.slice (some ⟨g', 0, none⟩) (acc.length + 1) cap') (acc.length + 1) (vs ++ [v])) (hat : blkOf ao = some g' ∨ W.heap.size ≤ g') :
    SetO (w2.setCell ⟨m, 1, none⟩ (.slice (some ⟨g', 0, none⟩) (acc.length + 1) cap')) B m neg (some ⟨g', 0, none⟩) cap' (acc ++ [e]) (vs ++ [v]) := by
  have hlt := blk_lt h.blk
  have keep : ∀ k o, ¬ (k < B ∨ k = m ∨ blkOf ao = some k) → W.heap[k]? = some o → (w2.setCell ⟨m, 1, none⟩ (.slice (some ⟨g', 0, none⟩) (acc.length + 1) cap')).heap[k]? = some o := fun k o hX ho => by
    rw [Below.heap_setCell _ _ _ _ (show k ≠ m from fun e => hX (.inr (.inl e)))]
    exact blk_grown ho hg (fun e => hX (.inr (.inr e.symm)))
  have hX : ∀ k, k < W.heap.size → (k < B ∨ k = m ∨ blkOf (some (⟨g', 0, none⟩ : Addr)) = some k) → (k < B ∨ k = m ∨ blkOf ao = some k) := fun k hk hx => by
    rcases hx with hx | hx | hx
    · exact .inl hx
    · exact .inr (.inl hx)
    · simp only [blkOf, Option.map_some, Option.some.injEq] at hx
      rcases hat with hat | hat
      · exact .inr (.inr (by rw [hat, hx]))
      · omega
  have hmid : w2.heap[m]? = some (.cells #[.bool neg, .slice ao acc.length cap] 142 (0, 0)) := blk_grown h.blk hg (fun e => by have := h.row m e.symm; omega)
  have hne : g' ≠ m := by
    obtain ⟨c, hc⟩ := own_type hown g' rfl
    exact type_ne hc hmid (by decide)
  refine ⟨?_, ?_, (h.els.kept keep hX).append (.cons (he.kept keep hX) .nil), h.hm⟩
  · rw [List.length_append, List.length_singleton]; exact blk_set hmid 1 _
  · rw [List.length_append, List.length_singleton]
    exact ownsRow_setCell_other hown (by rw [ownBlock_slice]; simp only [blkOf, Option.map_some, ne_eq, Option.some.injEq]; exact hne) _
theorem SetO.pushN {W w2 : World} {B m n : Nat} {neg : Bool} {ao : Option Addr} {cap : Nat} {acc : List El} {vs : List Value} {e : El} {v : Value} {g' cap' : Nat} (hn : acc.length = n) (h : SetO W B m neg ao cap acc vs) (he : ElAt (fun k => k < B ∨ k = m ∨ blkOf ao = some k) W e v)
    (hg : W.grownBy w2 (blkOf ao)) (hown : w2.ownsRow B 97 1 (.slice (some ⟨g', 0, none⟩) (n + 1) cap') (n + 1) (vs ++ [v])) (hat : blkOf ao = some g' ∨ W.heap.size ≤ g') :
    SetO (w2.setCell ⟨m, 1, none⟩ (.slice (some ⟨g', 0, none⟩) (n + 1) cap')) B m neg (some ⟨g', 0, none⟩) cap' (acc ++ [e]) (vs ++ [v]) := by
  subst hn
  exact h.pushW he hg hown hat
theorem SetO.push {W1 w2 : World} {B m : Nat} {neg : Bool} {ao : Option Addr} {cap : Nat} {acc : List El} {vs : List Value} {e : El} {v : Value} {o : Obj} {g' cap' : Nat} (h : SetO W1 B m neg ao cap acc vs) (he : ElAt (fun k => k < B ∨ k = m ∨ blkOf ao = some k) W1 e v)
    (hg : (W1.alloc o).grownBy w2 (blkOf ao)) (hown : w2.ownsRow B 97 1 (.slice (some ⟨g', 0, none⟩) (acc.length + 1) cap') (acc.length + 1) (vs ++ [v])) (hat : blkOf ao = some g' ∨ W1.heap.size + 1 ≤ g') :
    SetO (w2.setCell ⟨m, 1, none⟩ (.slice (some ⟨g', 0, none⟩) (acc.length + 1) cap')) B m neg (some ⟨g', 0, none⟩) cap' (acc ++ [e]) (vs ++ [v]) := by
  have hsz : (W1.alloc o).heap.size = W1.heap.size + 1 := by simp
  have hkk : ∀ k, k < (W1.alloc o).heap.size → (k < B ∨ k = m ∨ blkOf ao = some k) → (k < B ∨ k = m ∨ blkOf ao = some k) := fun _ _ h => h
  exact (h.alloc o).pushW (he.kept (fun k o' _ ho => blk_alloc ho o) (fun _ _ h => h)) hg hown (hat.imp id (fun h => by omega))

/-- The row shortened. -/
theorem owns_take {w : World} {B : Nat} {T : TypeId} {g n cap k : Nat} {xs : List Value} (h : w.ownsRow B T 1 (.slice (some ⟨g, 0, none⟩) n cap) n xs) (hk : k ≤ n) : w.ownsRow B T 1 (.slice (some ⟨g, 0, none⟩) k cap) k (xs.take k) := by
  have hl := h.1
  rcases h.2 with ⟨h1, _⟩ | ⟨g', c, cur, h1, hb, hg, hn, hm, hs, hx⟩
  · simp at h1
  · simp only [Value.slice.injEq, Option.some.injEq, Addr.mk.injEq, and_true] at h1
    obtain ⟨rfl, _, rfl⟩ := h1
    refine ⟨by simp; omega, .inr ⟨_, _, cur, rfl, hb, hg, by omega, hm, hs, ?_⟩⟩
    rw [← hx, List.take_take]
    congr 1
    omega

section
variable {w : World} {b : Nat} {sao : Option Addr} {scap : Nat} {zs : List Int} {c s : Nat}

theorem Scan.push {W1 w2 : World} {B : Nat} {row : Option Nat} (h : Scan W1 b sao scap zs c s) (hg : W1.grownBy w2 row) (hr : ∀ x, row = some x → B ≤ x) (hb : b < B) (hsrc : ∀ sb so, sao = some ⟨sb, so, none⟩ → sb < B) : Scan w2 b sao scap zs c s := by
  refine ⟨blk_grown h.blk hg (fun e => by have := hr b e.symm; omega), fun h0 => ?_, h.cb, h.sb, h.len, h.byte⟩
  obtain ⟨x, y, h1, h2, h3⟩ := h.src h0
  exact ⟨x, y, h1, h2, fun i hi => hg.cell (h3 i hi) (fun e => by have := hr x e.symm; have := hsrc x y h1; omega)⟩
theorem Scan.setFar {W1 : World} {B m i : Nat} {u : Value} (h : Scan W1 b sao scap zs c s) (hm : B ≤ m) (hb : b < B) (hsrc : ∀ sb so, sao = some ⟨sb, so, none⟩ → sb < B) : Scan (W1.setCell ⟨m, i, none⟩ u) b sao scap zs c s :=
  h.push (B := B) (row := some m) (one_setCell (one_refl W1 (some m)) (.inl rfl) u) (fun x hx => by injection hx; omega) hb hsrc
theorem Scan.srcLt (h : Scan w b sao scap zs c s) (h0 : 0 < zs.length) : ∀ sb so, sao = some ⟨sb, so, none⟩ → sb < w.heap.size := by
  intro sb so e
  obtain ⟨x, y, h1, h2, h3⟩ := h.src h0
  rw [e] at h1
  simp only [Option.some.injEq, Addr.mk.injEq, and_true] at h1
  rw [h1.1]
  exact lt_of_cell (h3 0 h0)
theorem Scan.drewN' (h : Scan w b sao scap zs c s) (n : Nat) : Scan (w.drewN n) b sao scap zs c s := ⟨h.blk, h.src, h.cb, h.sb, h.len, h.byte⟩
theorem Scan.drew' (h : Scan w b sao scap zs c s) : Scan w.drew b sao scap zs c s := ⟨h.blk, h.src, h.cb, h.sb, h.len, h.byte⟩

theorem setLoop_cases {zs : List Int} {c : Nat} {acc : List El} {isr : Bool} {r : List El × Bool × Nat} (h : setLoop zs c acc isr = some r) : c < zs.length ∧
    ((chr zs c = 93 ∧ acc ≠ [] ∧ r = (acc, isr, c + 1)) ∨ (chr zs c = 45 ∧ acc ≠ [] ∧ setLoop zs (c + 1) acc true = some r) ∨
     (¬ (chr zs c = 93 ∧ acc ≠ []) ∧ ¬ (chr zs c = 45 ∧ acc ≠ []) ∧ setLoop zs (elem zs c).2 (if isr then rangeUp acc (elem zs c).1 else acc ++ [(elem zs c).1]) false = some r)) := by
  rw [setLoop] at h
  split at h
  · simp at h
  · rename_i h1
    refine ⟨by omega, ?_⟩
    split at h
    · rename_i h2; exact .inl ⟨h2.1, h2.2, by simpa using h.symm⟩
    · rename_i h2
      split at h
      · rename_i h3; exact .inr (.inl ⟨h3.1, h3.2, h⟩)
      · rename_i h3; exact .inr (.inr ⟨h2, h3, h⟩)

theorem owns_cap {w : World} {B : Nat} {T : TypeId} {sz g n cap : Nat} {xs : List Value} (h : w.ownsRow B T sz (.slice (some ⟨g, 0, none⟩) n cap) n xs) : n ≤ cap := by
  rcases h.2 with ⟨h1, _⟩ | ⟨g', c, cur, h1, hb, hg, hn, _⟩
  · simp at h1
  · simp only [Value.slice.injEq] at h1; omega

/-- The slice field shortened. -/
theorem SetO.cut {w : World} {B m : Nat} {neg : Bool} {g cap k : Nat} {acc : List El} {vs : List Value} (h : SetO w B m neg (some ⟨g, 0, none⟩) cap acc vs) (hk : k ≤ acc.length) :
    SetO (w.setCell ⟨m, 1, none⟩ (.slice (some ⟨g, 0, none⟩) k cap)) B m neg (some ⟨g, 0, none⟩) cap (acc.take k) (vs.take k) := by
  have hl : (acc.take k).length = k := by simp; omega
  refine ⟨by rw [hl]; exact blk_set h.blk 1 _, by rw [hl]; exact ownsRow_setCell_other (owns_take h.own hk) (by rw [ownBlock_slice]; simp only [blkOf, Option.map_some, ne_eq, Option.some.injEq]; exact (h.row g rfl).1) _, (h.els.take k).kept (fun q o hX ho => ?_) (fun _ _ h => h), h.hm⟩
  rw [Below.heap_setCell _ _ _ _ (show q ≠ m from fun e => hX (.inr (.inl e)))]
  exact ho

/-- A range of two elements, laid in a new block. -/
theorem rng_mk {we : World} {X : Nat → Prop} {x y : El} {vx vy : Value} {o2 : Obj} (hx : ElAt X we x vx) (hy : ElAt X we y vy) (hX : ¬ X we.heap.size) :
    ElAt X ((we.alloc (.cells #[vx, vy] 145)).alloc o2).drew (.rng x y) (.iface 143 (.pointer (some ⟨we.heap.size, 0, none⟩))) :=
  ⟨we.heap.size, vx, vy, rfl, hX, blk_drew (blk_alloc (blk_new we _) o2), hx.kept (fun _ _ _ h => blk_drew (blk_alloc (blk_alloc h _) _)) (fun _ _ h => h), hy.kept (fun _ _ _ h => blk_drew (blk_alloc (blk_alloc h _) _)) (fun _ _ h => h)⟩

theorem news_at {W : World} {v : Value} {T : TypeId} {n : Nat} (h : W.heap.size = n) : ∀ (j : Nat) (u : Value), [v][j]? = some u → ((W.alloc (.cells #[v] T)).drew).cell? ((⟨n, 0, none⟩ : Addr).add j) = some u := by
  subst h
  exact fun j u hj => cell_one_new W v T j u hj
/-- What parseClassSet leaves. -/
def ClPost (w : World) (b : Nat) (ao : Option Addr) (cap : Nat) (zs : List Int) (s : Nat) (r : Cl × Nat) (e : Ending) (w' : World) : Prop :=
  ∃ T a, e = .returned (.iface T (.pointer a)) ∧ ClAt (fun k => k < w.heap.size) w' r.1 (.iface T (.pointer a)) ∧ Scan w' b ao cap zs r.2 s ∧ w.grownBy w' (some b)
end


end Go.Proofs.YtcfhhcjcnafcjaaFmt
