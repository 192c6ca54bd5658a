/-
  Laws on a set under construction: a call that writes the scanner, an append, a shorter row. Conditions as each states.
-/
import Derived.Test.YtcfhhcjcnafcjaaFmtParseEl
import Derived.ScopeJumps
import Derived.Deep.CutRange
import Derived.Deep.DeepCutAuto
import Derived.Outline
import Derived.Deep.RegionLaw
namespace Go.Proofs.YtcfhhcjcnafcjaaFmt
open Go.RowKit
set_option linter.unusedVariables false
set_option linter.unusedSimpArgs false

theorem one_push {a w w2 : World} {g : Nat} {row : Option Nat} (h : a.grownBy w (some g)) (k : w.grownBy w2 row) (hr : ∀ x, row = some x → a.heap.size ≤ x) : a.grownBy w2 (some g) :=
  ⟨k.os.trans h.os, k.tape.trans h.tape, k.output.trans h.output, Nat.le_trans h.size k.size, fun i hi hne => (k.block i (Nat.lt_of_lt_of_le hi h.size) (fun e => by have := hr i e.symm; omega)).trans (h.block i hi hne)⟩


section
variable {P : Program} {a : Act} {w : World} {Q : Exit → Act → World → Prop}
/-- A scope that a goto leaves forward: what stands behind the label is walked from the goto on. -/
theorem wp_scope_exit {c rest : Code} (l : Nat) (hf : findLabel c l = some rest) (hQ : ∀ l a w, ¬ Q (.goto l) a w) (first : c.wp P (Exit.jump l (fun a w => rest.wp P Q a w) Q) a w) : (Code.scope c).wp P Q a w := by
  refine wp_scope_jumps l (fun a w => rest.wp P Q a w) (fun _ _ => 0) hf first ?_
  intro a w h
  refine wp_mono h ?_
  intro e a' w' hq
  cases e with
  | goto l' => exact (hQ _ _ _ hq).elim
  | normal => exact hq
  | exit id => exact hq
  | ret => exact hq
  | panic ch => exact hq
  | outgrown => exact hq
end

theorem class_info : (Tryf.prog.info? 97).map (fun i => (i.zero, i.size, i.bytes)) = some (some .nilIface, 1, 16) := by kernel_rfl

/-- A set under construction at block m; nothing of it lies below B. -/
structure SetO (w : World) (B m : Nat) (neg : Bool) (ao : Option Addr) (cap : Nat) (acc : List El) (vs : List Value) : Prop where
  blk : w.heap[m]? = some (.cells #[.bool neg, .slice ao acc.length cap] 142 (0, 0))
  own : w.ownsRow B 97 1 (.slice ao acc.length cap) acc.length vs
  els : ElsAt (fun k => k < B ∨ k = m ∨ blkOf ao = some k) w acc vs
  hm : B ≤ m

theorem own_type {w : World} {B : Nat} {T : TypeId} {sz : Nat} {ao : Option Addr} {n cap : Nat} {xs : List Value} (ho : w.ownsRow B T sz (.slice ao n cap) n xs) : ∀ g, blkOf ao = some g → ∃ c, w.heap[g]? = some (.cells c T (0, 0)) := by
  intro g' hg'
  rcases ho.2 with ⟨h1, h2⟩ | ⟨g, c, cur, h1, _, hg, _⟩
  · simp only [Value.slice.injEq] at h1
    rw [h1.1] at hg'; simp [blkOf] at hg'
  · simp only [Value.slice.injEq] at h1
    rw [h1.1] at hg'
    simp only [blkOf, Option.map_some, Option.some.injEq] at hg'
    subst hg'
    exact ⟨_, hg⟩
theorem type_ne {w : World} {g m : Nat} {c d : Array Value} {T U : TypeId} {r q : Nat × Nat} (h : w.heap[g]? = some (.cells c T r)) (k : w.heap[m]? = some (.cells d U q)) (hne : T ≠ U) : g ≠ m := by
  rintro rfl
  rw [h] at k
  simp only [Option.some.injEq, Obj.cells.injEq] at k
  exact hne k.2.1

theorem SetO.row {w : World} {B m : Nat} {neg : Bool} {ao : Option Addr} {cap : Nat} {acc : List El} {vs : List Value} (h : SetO w B m neg ao cap acc vs) : ∀ g, blkOf ao = some g → g ≠ m ∧ B ≤ g ∧ g < w.heap.size := by
  intro g hg
  obtain ⟨c, hc⟩ := own_type h.own g hg
  exact ⟨type_ne hc h.blk (by decide), owns_lt h.own g hg⟩

/-- A call that writes the scanner's block alone leaves the set. -/
theorem SetO.call {w w1 : World} {B m b : Nat} {neg : Bool} {ao : Option Addr} {cap : Nat} {acc : List El} {vs : List Value} (h : SetO w B m neg ao cap acc vs) (hg : w.grownBy w1 (some b)) (hb : b < B) : SetO w1 B m neg ao cap acc vs := by
  have keep : ∀ k o, k ≠ b → w.heap[k]? = some o → w1.heap[k]? = some o := fun k o hk ho => blk_grown ho hg (fun e => hk (by injection e))
  have hm := h.hm
  refine ⟨keep m _ (by omega) h.blk, owns_kept h.own (fun g o hgg ho => keep g o (by have := h.row g hgg; omega) ho), h.els.kept (fun k o hX ho => keep k o (fun e => hX (.inl (by omega))) ho) (fun _ _ hX => hX), hm⟩

theorem SetO.drewN {w : World} {B m : Nat} {neg : Bool} {ao : Option Addr} {cap : Nat} {acc : List El} {vs : List Value} (h : SetO w B m neg ao cap acc vs) (n : Nat) : SetO (w.drewN n) B m neg ao cap acc vs :=
  ⟨h.blk, h.own, h.els.kept (fun _ _ _ h => h) (fun _ _ h => h), h.hm⟩
theorem SetO.alloc {w : World} {B m : Nat} {neg : Bool} {ao : Option Addr} {cap : Nat} {acc : List El} {vs : List Value} (h : SetO w B m neg ao cap acc vs) (o : Obj) : SetO (w.alloc o) B m neg ao cap acc vs :=
  ⟨blk_alloc h.blk o, h.own.alloc o, h.els.kept (fun _ _ _ h => blk_alloc h o) (fun _ _ h => h), h.hm⟩

theorem SetO.pushW {W w2 : World} {B m : Nat} {neg : Bool} {ao : Option Addr} {cap : Nat} {acc : List El} {vs : List Value} {e : El} {v : Value} {g' cap' : Nat} (h : SetO W B m neg ao cap acc vs) (he : ElAt (fun k => k < B ∨ k = m ∨ blkOf ao = some k) W e v)
    (hg : W.grownBy w2 (blkOf ao)) (hown : w2.ownsRow B 97 1 (.slice (some ⟨g', 0, none⟩) (acc.length + 1) cap') (acc.length + 1) (vs ++ [v])) (hat : blkOf ao = some g' ∨ W.heap.size ≤ g') :
    SetO (w2.setCell ⟨m, 1, none⟩ (.slice (some ⟨g', 0, none⟩) (acc.length + 1) cap')) B m neg (some ⟨g', 0, none⟩) cap' (acc ++ [e]) (vs ++ [v]) := by
  have hlt := blk_lt h.blk
  have keep : ∀ k o, ¬ (k < B ∨ k = m ∨ blkOf ao = some k) → W.heap[k]? = some o → (w2.setCell ⟨m, 1, none⟩ (.slice (some ⟨g', 0, none⟩) (acc.length + 1) cap')).heap[k]? = some o := fun k o hX ho => by
    rw [Below.heap_setCell _ _ _ _ (show k ≠ m from fun e => hX (.inr (.inl e)))]
    exact blk_grown ho hg (fun e => hX (.inr (.inr e.symm)))
  have hX : ∀ k, k < W.heap.size → (k < B ∨ k = m ∨ blkOf (some (⟨g', 0, none⟩ : Addr)) = some k) → (k < B ∨ k = m ∨ blkOf ao = some k) := fun k hk hx => by
    rcases hx with hx | hx | hx
    · exact .inl hx
    · exact .inr (.inl hx)
    · simp only [blkOf, Option.map_some, Option.some.injEq] at hx
      rcases hat with hat | hat
      · exact .inr (.inr (by rw [hat, hx]))
      · omega
  have hmid : w2.heap[m]? = some (.cells #[.bool neg, .slice ao acc.length cap] 142 (0, 0)) := blk_grown h.blk hg (fun e => by have := h.row m e.symm; omega)
  have hne : g' ≠ m := by
    obtain ⟨c, hc⟩ := own_type hown g' rfl
    exact type_ne hc hmid (by decide)
  refine ⟨?_, ?_, (h.els.kept keep hX).append (.cons (he.kept keep hX) .nil), h.hm⟩
  · rw [List.length_append, List.length_singleton]; exact blk_set hmid 1 _
  · rw [List.length_append, List.length_singleton]
    exact ownsRow_setCell_other hown (by rw [ownBlock_slice]; simp only [blkOf, Option.map_some, ne_eq, Option.some.injEq]; exact hne) _
theorem SetO.pushN {W w2 : World} {B m n : Nat} {neg : Bool} {ao : Option Addr} {cap : Nat} {acc : List El} {vs : List Value} {e : El} {v : Value} {g' cap' : Nat} (hn : acc.length = n) (h : SetO W B m neg ao cap acc vs) (he : ElAt (fun k => k < B ∨ k = m ∨ blkOf ao = some k) W e v)
    (hg : W.grownBy w2 (blkOf ao)) (hown : w2.ownsRow B 97 1 (.slice (some ⟨g', 0, none⟩) (n + 1) cap') (n + 1) (vs ++ [v])) (hat : blkOf ao = some g' ∨ W.heap.size ≤ g') :
    SetO (w2.setCell ⟨m, 1, none⟩ (.slice (some ⟨g', 0, none⟩) (n + 1) cap')) B m neg (some ⟨g', 0, none⟩) cap' (acc ++ [e]) (vs ++ [v]) := by
  subst hn
  exact h.pushW he hg hown hat
theorem SetO.push {W1 w2 : World} {B m : Nat} {neg : Bool} {ao : Option Addr} {cap : Nat} {acc : List El} {vs : List Value} {e : El} {v : Value} {o : Obj} {g' cap' : Nat} (h : SetO W1 B m neg ao cap acc vs) (he : ElAt (fun k => k < B ∨ k = m ∨ blkOf ao = some k) W1 e v)
    (hg : (W1.alloc o).grownBy w2 (blkOf ao)) (hown : w2.ownsRow B 97 1 (.slice (some ⟨g', 0, none⟩) (acc.length + 1) cap') (acc.length + 1) (vs ++ [v])) (hat : blkOf ao = some g' ∨ W1.heap.size + 1 ≤ g') :
    SetO (w2.setCell ⟨m, 1, none⟩ (.slice (some ⟨g', 0, none⟩) (acc.length + 1) cap')) B m neg (some ⟨g', 0, none⟩) cap' (acc ++ [e]) (vs ++ [v]) := by
  have hsz : (W1.alloc o).heap.size = W1.heap.size + 1 := by simp
  have hkk : ∀ k, k < (W1.alloc o).heap.size → (k < B ∨ k = m ∨ blkOf ao = some k) → (k < B ∨ k = m ∨ blkOf ao = some k) := fun _ _ h => h
  exact (h.alloc o).pushW (he.kept (fun k o' _ ho => blk_alloc ho o) (fun _ _ h => h)) hg hown (hat.imp id (fun h => by omega))

/-- The row shortened. -/
theorem owns_take {w : World} {B : Nat} {T : TypeId} {g n cap k : Nat} {xs : List Value} (h : w.ownsRow B T 1 (.slice (some ⟨g, 0, none⟩) n cap) n xs) (hk : k ≤ n) : w.ownsRow B T 1 (.slice (some ⟨g, 0, none⟩) k cap) k (xs.take k) := by
  have hl := h.1
  rcases h.2 with ⟨h1, _⟩ | ⟨g', c, cur, h1, hb, hg, hn, hm, hs, hx⟩
  · simp at h1
  · simp only [Value.slice.injEq, Option.some.injEq, Addr.mk.injEq, and_true] at h1
    obtain ⟨rfl, _, rfl⟩ := h1
    refine ⟨by simp; omega, .inr ⟨_, _, cur, rfl, hb, hg, by omega, hm, hs, ?_⟩⟩
    rw [← hx, List.take_take]
    congr 1
    omega

section
variable {w : World} {b : Nat} {sao : Option Addr} {scap : Nat} {zs : List Int} {c s : Nat}

theorem Scan.push {W1 w2 : World} {B : Nat} {row : Option Nat} (h : Scan W1 b sao scap zs c s) (hg : W1.grownBy w2 row) (hr : ∀ x, row = some x → B ≤ x) (hb : b < B) (hsrc : ∀ sb so, sao = some ⟨sb, so, none⟩ → sb < B) : Scan w2 b sao scap zs c s := by
  refine ⟨blk_grown h.blk hg (fun e => by have := hr b e.symm; omega), fun h0 => ?_, h.cb, h.sb, h.len, h.byte⟩
  obtain ⟨x, y, h1, h2, h3⟩ := h.src h0
  exact ⟨x, y, h1, h2, fun i hi => hg.cell (h3 i hi) (fun e => by have := hr x e.symm; have := hsrc x y h1; omega)⟩
theorem Scan.setFar {W1 : World} {B m i : Nat} {u : Value} (h : Scan W1 b sao scap zs c s) (hm : B ≤ m) (hb : b < B) (hsrc : ∀ sb so, sao = some ⟨sb, so, none⟩ → sb < B) : Scan (W1.setCell ⟨m, i, none⟩ u) b sao scap zs c s :=
  h.push (B := B) (row := some m) (one_setCell (one_refl W1 (some m)) (.inl rfl) u) (fun x hx => by injection hx; omega) hb hsrc
theorem Scan.srcLt (h : Scan w b sao scap zs c s) (h0 : 0 < zs.length) : ∀ sb so, sao = some ⟨sb, so, none⟩ → sb < w.heap.size := by
  intro sb so e
  obtain ⟨x, y, h1, h2, h3⟩ := h.src h0
  rw [e] at h1
  simp only [Option.some.injEq, Addr.mk.injEq, and_true] at h1
  rw [h1.1]
  exact lt_of_cell (h3 0 h0)
theorem Scan.drewN' (h : Scan w b sao scap zs c s) (n : Nat) : Scan (w.drewN n) b sao scap zs c s := ⟨h.blk, h.src, h.cb, h.sb, h.len, h.byte⟩
theorem Scan.drew' (h : Scan w b sao scap zs c s) : Scan w.drew b sao scap zs c s := ⟨h.blk, h.src, h.cb, h.sb, h.len, h.byte⟩

theorem setLoop_cases {zs : List Int} {c : Nat} {acc : List El} {isr : Bool} {r : List El × Bool × Nat} (h : setLoop zs c acc isr = some r) : c < zs.length ∧
    ((chr zs c = 93 ∧ acc ≠ [] ∧ r = (acc, isr, c + 1)) ∨ (chr zs c = 45 ∧ acc ≠ [] ∧ setLoop zs (c + 1) acc true = some r) ∨
     (¬ (chr zs c = 93 ∧ acc ≠ []) ∧ ¬ (chr zs c = 45 ∧ acc ≠ []) ∧ setLoop zs (elem zs c).2 (if isr then rangeUp acc (elem zs c).1 else acc ++ [(elem zs c).1]) false = some r)) := by
  rw [setLoop] at h
  split at h
  · simp at h
  · rename_i h1
    refine ⟨by omega, ?_⟩
    split at h
    · rename_i h2; exact .inl ⟨h2.1, h2.2, by simpa using h.symm⟩
    · rename_i h2
      split at h
      · rename_i h3; exact .inr (.inl ⟨h3.1, h3.2, h⟩)
      · rename_i h3; exact .inr (.inr ⟨h2, h3, h⟩)

theorem owns_cap {w : World} {B : Nat} {T : TypeId} {sz g n cap : Nat} {xs : List Value} (h : w.ownsRow B T sz (.slice (some ⟨g, 0, none⟩) n cap) n xs) : n ≤ cap := by
  rcases h.2 with ⟨h1, _⟩ | ⟨g', c, cur, h1, hb, hg, hn, _⟩
  · simp at h1
  · simp only [Value.slice.injEq] at h1; omega

/-- The slice field shortened. -/
theorem SetO.cut {w : World} {B m : Nat} {neg : Bool} {g cap k : Nat} {acc : List El} {vs : List Value} (h : SetO w B m neg (some ⟨g, 0, none⟩) cap acc vs) (hk : k ≤ acc.length) :
    SetO (w.setCell ⟨m, 1, none⟩ (.slice (some ⟨g, 0, none⟩) k cap)) B m neg (some ⟨g, 0, none⟩) cap (acc.take k) (vs.take k) := by
  have hl : (acc.take k).length = k := by simp; omega
  refine ⟨by rw [hl]; exact blk_set h.blk 1 _, by rw [hl]; exact ownsRow_setCell_other (owns_take h.own hk) (by rw [ownBlock_slice]; simp only [blkOf, Option.map_some, ne_eq, Option.some.injEq]; exact (h.row g rfl).1) _, (h.els.take k).kept (fun q o hX ho => ?_) (fun _ _ h => h), h.hm⟩
  rw [Below.heap_setCell _ _ _ _ (show q ≠ m from fun e => hX (.inr (.inl e)))]
  exact ho

/-- A range of two elements, laid in a new block. -/
theorem rng_mk {we : World} {X : Nat → Prop} {x y : El} {vx vy : Value} {o2 : Obj} (hx : ElAt X we x vx) (hy : ElAt X we y vy) (hX : ¬ X we.heap.size) :
    ElAt X ((we.alloc (.cells #[vx, vy] 145)).alloc o2).drew (.rng x y) (.iface 143 (.pointer (some ⟨we.heap.size, 0, none⟩))) :=
  ⟨we.heap.size, vx, vy, rfl, hX, blk_drew (blk_alloc (blk_new we _) o2), hx.kept (fun _ _ _ h => blk_drew (blk_alloc (blk_alloc h _) _)) (fun _ _ h => h), hy.kept (fun _ _ _ h => blk_drew (blk_alloc (blk_alloc h _) _)) (fun _ _ h => h)⟩

theorem news_at {W : World} {v : Value} {T : TypeId} {n : Nat} (h : W.heap.size = n) : ∀ (j : Nat) (u : Value), [v][j]? = some u → ((W.alloc (.cells #[v] T)).drew).cell? ((⟨n, 0, none⟩ : Addr).add j) = some u := by
  subst h
  exact fun j u hj => cell_one_new W v T j u hj
/-- What parseClassSet leaves. -/
def ClPost (w : World) (b : Nat) (ao : Option Addr) (cap : Nat) (zs : List Int) (s : Nat) (r : Cl × Nat) (e : Ending) (w' : World) : Prop :=
  ∃ T a, e = .returned (.iface T (.pointer a)) ∧ ClAt (fun k => k < w.heap.size) w' r.1 (.iface T (.pointer a)) ∧ Scan w' b ao cap zs r.2 s ∧ w.grownBy w' (some b)
end

end Go.Proofs.YtcfhhcjcnafcjaaFmt
