/-
  Definitions for the contract of compilePattern. Conditions as each statement says.
-/
import Derived.Test.YtcfhhcjcnafcjaaFmtPatAll
import Derived.Test.YtcfhhcjcnafcjaaFmtBase
import Derived.Deep.LoopGhost
namespace Go.Proofs.YtcfhhcjcnafcjaaFmt
open Go.RowKit
set_option linter.unusedVariables false
set_option linter.unusedSimpArgs false


/-- The four cells of an instruction; none of its class's blocks is one of X. -/
inductive InsAt (X : Nat → Prop) (w : World) : Ins → List Value → Prop
  | chr {c : Cl} {v : Value} : ClAt X w c v → InsAt X w (.chr c) [.int .i64 0, v, .int .i64 (-1), .int .i64 (-1)]
  | mat : InsAt X w .mat [.int .i64 1, .nilIface, .int .i64 (-1), .int .i64 (-1)]
  | tmat : InsAt X w .tmat [.int .i64 2, .nilIface, .int .i64 (-1), .int .i64 (-1)]
  | jmp {a : Nat} : InsAt X w (.jmp a) [.int .i64 3, .nilIface, .int .i64 a, .int .i64 (-1)]
  | split {a b : Nat} : InsAt X w (.split a b) [.int .i64 4, .nilIface, .int .i64 a, .int .i64 b]
  | save {n : Nat} : InsAt X w (.save n) [.int .i64 5, .nilIface, .int .i64 n, .int .i64 (-1)]
  | psave {n : Nat} : InsAt X w (.psave n) [.int .i64 6, .nilIface, .int .i64 n, .int .i64 (-1)]
  | brace {b e : Int} : InsAt X w (.brace b e) [.int .i64 7, .nilIface, .int .i64 b, .int .i64 e]
  | num {n : Int} : InsAt X w (.num n) [.int .i64 8, .nilIface, .int .i64 n, .int .i64 (-1)]

theorem InsAt.kept {X Y : Nat → Prop} {w w' : World} {i : Ins} {xs : List Value} (h : InsAt X w i xs) (hk : ∀ k o, ¬ X k → w.heap[k]? = some o → w'.heap[k]? = some o) (hX : ∀ k, k < w.heap.size → Y k → X k) : InsAt Y w' i xs := by
  cases h with
  | chr h1 => exact .chr (h1.kept hk hX)
  | mat => exact .mat
  | tmat => exact .tmat
  | jmp => exact .jmp
  | split => exact .split
  | save => exact .save
  | psave => exact .psave
  | brace => exact .brace
  | num => exact .num
theorem InsAt.four {X : Nat → Prop} {w : World} {i : Ins} {xs : List Value} (h : InsAt X w i xs) : xs.length = 4 := by
  cases h <;> rfl

/-- Instructions one after the other. -/
inductive InssAt (X : Nat → Prop) (w : World) : List Ins → List Value → Prop
  | nil : InssAt X w [] []
  | cons {i xs is ys} : InsAt X w i xs → InssAt X w is ys → InssAt X w (i :: is) (xs ++ ys)
theorem InssAt.kept {X Y : Nat → Prop} {w w' : World} {is : List Ins} {xs : List Value} (h : InssAt X w is xs) (hk : ∀ k o, ¬ X k → w.heap[k]? = some o → w'.heap[k]? = some o) (hX : ∀ k, k < w.heap.size → Y k → X k) : InssAt Y w' is xs := by
  induction h with
  | nil => exact .nil
  | cons h1 _ ih => exact .cons (h1.kept hk hX) ih
theorem InssAt.append {X : Nat → Prop} {w : World} {is js : List Ins} {xs ys : List Value} (h : InssAt X w is xs) (k : InssAt X w js ys) : InssAt X w (is ++ js) (xs ++ ys) := by
  induction h with
  | nil => exact k
  | cons h1 _ ih => rw [List.append_assoc]; exact .cons h1 ih
theorem InssAt.length {X : Nat → Prop} {w : World} {is : List Ins} {xs : List Value} (h : InssAt X w is xs) : xs.length = is.length * 4 := by
  induction h with
  | nil => rfl
  | cons h1 _ ih => rw [List.length_append, h1.four, ih, List.length_cons]; omega
theorem InssAt.one {X : Nat → Prop} {w : World} {i : Ins} {xs : List Value} (h : InsAt X w i xs) : InssAt X w [i] xs := by
  have := InssAt.cons h .nil
  rwa [List.append_nil] at this
/-- The instruction at a place: its four cells there. -/
theorem InssAt.get {X : Nat → Prop} {w : World} {is : List Ins} {xs : List Value} (h : InssAt X w is xs) : ∀ (n : Nat) (i : Ins), is[n]? = some i → ∃ ys, InsAt X w i ys ∧ ∀ j, j < 4 → xs[n * 4 + j]? = ys[j]? := by
  induction h with
  | nil => intro n i hn; simp at hn
  | @cons i0 xs0 is0 ys0 h1 _ ih =>
    intro n i hn
    cases n with
    | zero =>
      simp only [List.getElem?_cons_zero, Option.some.injEq] at hn
      subst hn
      exact ⟨_, h1, fun j hj => by rw [List.getElem?_append_left (by rw [h1.four]; omega)]; congr 1; omega⟩
    | succ n =>
      obtain ⟨ys, h2, h3⟩ := ih n i (by simpa using hn)
      exact ⟨ys, h2, fun j hj => by rw [List.getElem?_append_right (by rw [h1.four]; omega), h1.four, ← h3 j hj]; congr 1; omega⟩

theorem inst_info : (Tryf.prog.info? 123).map (fun i => (i.zero, i.size, i.bytes)) = some (some (.agg #[.int .i64 0, .nilIface, .int .i64 0, .int .i64 0]), 4, 40) := by kernel_rfl

/-- The compiler's state at block m. -/
structure CompO (w : World) (m : Nat) (ao : Option Addr) (cap : Nat) (I : List Ins) (k : Nat) (xs : List Value) : Prop where
  blk : w.heap[m]? = some (.cells #[.slice ao I.length cap, .int .i64 k] 125 (0, 0))
  own : w.ownsRow 0 123 4 (.slice ao I.length cap) I.length xs
  els : InssAt (fun q => q = m ∨ blkOf ao = some q) w I xs

section
variable {w w1 : World} {m : Nat} {ao : Option Addr} {cap : Nat} {I : List Ins} {k : Nat} {xs : List Value}
theorem CompO.row (h : CompO w m ao cap I k xs) : ∀ g, blkOf ao = some g → g ≠ m ∧ g < w.heap.size := by
  intro g hg
  obtain ⟨c, hc⟩ := own_type h.own g hg
  exact ⟨type_ne hc h.blk (by decide), (owns_lt h.own g hg).2⟩
theorem CompO.drewN (h : CompO w m ao cap I k xs) (n : Nat) : CompO (w.drewN n) m ao cap I k xs :=
  ⟨h.blk, h.own, h.els.kept (fun _ _ _ h => h) (fun _ _ h => h)⟩
theorem CompO.alloc (h : CompO w m ao cap I k xs) (o : Obj) : CompO (w.alloc o) m ao cap I k xs :=
  ⟨blk_alloc h.blk o, h.own.alloc o, h.els.kept (fun _ _ _ h => blk_alloc h o) (fun _ _ h => h)⟩
/-- Which blocks are the state's own. -/
def CX (m : Nat) (ao : Option Addr) : Nat → Prop := fun q => q = m ∨ blkOf ao = some q
theorem Moved.keeps {w w' : World} {m : Nat} {ao ao' : Option Addr} (h : Moved w w' m ao ao') : ∀ q o, ¬ CX m ao q → w.heap[q]? = some o → w'.heap[q]? = some o :=
  fun q o hX ho => (h.block q (blk_lt ho) (fun e => hX (.inl e)) (fun e => hX (.inr e.symm))).trans ho
theorem Moved.back {w w' : World} {m : Nat} {ao ao' : Option Addr} (h : Moved w w' m ao ao') : ∀ q, q < w.heap.size → CX m ao' q → CX m ao q := fun q hq hX => by
  rcases hX with hX | hX
  · exact .inl hX
  · rcases h.row with hr | hr
    · exact .inr (hr ▸ hX)
    · have := hr q hX; omega
theorem Moved.pts {w w' : World} {m : Nat} {ao ao' : Option Addr} (h : Moved w w' m ao ao') {ps : List Pt} {vs : List Value} (hp : PtsAt (CX m ao) w ps vs) : PtsAt (CX m ao') w' ps vs := hp.kept h.keeps h.back
theorem Moved.cl {w w' : World} {m : Nat} {ao ao' : Option Addr} (h : Moved w w' m ao ao') {c : Cl} {v : Value} (hp : ClAt (CX m ao) w c v) : ClAt (CX m ao') w' c v := hp.kept h.keeps h.back
theorem Moved.alloc {w w' : World} {m : Nat} {ao ao' : Option Addr} (h : Moved w w' m ao ao') (o : Obj) : Moved w (w'.alloc o) m ao ao' :=
  ⟨h.os, h.tape, h.output, Nat.le_trans h.size (by simp), fun q hq hm hx => (Below.heap_alloc w' o q (Nat.lt_of_lt_of_le hq h.size)).trans (h.block q hq hm hx), h.row⟩
theorem Moved.drewN {w w' : World} {m : Nat} {ao ao' : Option Addr} (h : Moved w w' m ao ao') (n : Nat) : Moved w (w'.drewN n) m ao ao' := ⟨h.os, h.tape, h.output, h.size, h.block, h.row⟩
theorem Moved.drew {w w' : World} {m : Nat} {ao ao' : Option Addr} (h : Moved w w' m ao ao') : Moved w w'.drew m ao ao' := ⟨h.os, h.tape, h.output, h.size, h.block, h.row⟩
theorem Moved.setOwn {w w' : World} {m : Nat} {ao ao' : Option Addr} (h : Moved w w' m ao ao') (i : Nat) (u : Value) : Moved w (w'.setCell ⟨m, i, none⟩ u) m ao ao' :=
  ⟨h.os, h.tape, h.output, by simpa [World.setCell] using h.size, fun q hq hm hx => (Below.heap_setCell w' _ u q (show q ≠ m from hm)).trans (h.block q hq hm hx), h.row⟩

/-- Instructions appended. -/
theorem CompO.push {w2 : World} {J : List Ins} {news : List Value} {n g' cap' : Nat} (h : CompO w m ao cap I k xs) (hj : InssAt (CX m ao) w J news) (hn : J.length = n)
    (hg : w.grownBy w2 (blkOf ao)) (hown : w2.ownsRow 0 123 4 (.slice (some ⟨g', 0, none⟩) (I.length + n) cap') (I.length + n) (xs ++ news)) (hat : blkOf ao = some g' ∨ w.heap.size ≤ g') :
    CompO (w2.setCell ⟨m, 0, none⟩ (.slice (some ⟨g', 0, none⟩) (I.length + n) cap')) m (some ⟨g', 0, none⟩) cap' (I ++ J) k (xs ++ news) ∧ Moved w (w2.setCell ⟨m, 0, none⟩ (.slice (some ⟨g', 0, none⟩) (I.length + n) cap')) m ao (some ⟨g', 0, none⟩) := by
  subst hn
  have hlt := blk_lt h.blk
  have keep : ∀ q o, ¬ CX m ao q → w.heap[q]? = some o → (w2.setCell ⟨m, 0, none⟩ (.slice (some ⟨g', 0, none⟩) (I.length + J.length) cap')).heap[q]? = some o := fun q o hX ho => by
    rw [Below.heap_setCell _ _ _ _ (show q ≠ m from fun e => hX (.inl e))]
    exact blk_grown ho hg (fun e => hX (.inr e.symm))
  have hX : ∀ q, q < w.heap.size → CX m (some ⟨g', 0, none⟩) q → CX m ao q := fun q hq hx => by
    rcases hx with hx | hx
    · exact .inl hx
    · simp only [blkOf, Option.map_some, Option.some.injEq] at hx
      rcases hat with hat | hat
      · exact .inr (by rw [hat, hx])
      · omega
  have hmid : w2.heap[m]? = some (.cells #[.slice ao I.length cap, .int .i64 k] 125 (0, 0)) := blk_grown h.blk hg (fun e => by have := h.row m e.symm; omega)
  have hne : g' ≠ m := by
    obtain ⟨c, hc⟩ := own_type hown g' rfl
    exact type_ne hc hmid (by decide)
  refine ⟨⟨?_, ?_, (h.els.kept keep hX).append (hj.kept keep hX)⟩, hg.os, hg.tape, hg.output, ?_, fun q hq hm hx => ?_, ?_⟩
  · rw [List.length_append]; exact blk_set hmid 0 _
  · rw [List.length_append]
    exact ownsRow_setCell_other hown (by rw [ownBlock_slice]; simp only [blkOf, Option.map_some, ne_eq, Option.some.injEq]; exact hne) _
  · simpa [World.setCell] using hg.size
  · rw [Below.heap_setCell _ _ _ _ hm]
    exact hg.block q hq hx
  · rcases hat with hat | hat
    · exact .inl hat.symm
    · exact .inr fun g hgg => by simp only [blkOf, Option.map_some, Option.some.injEq] at hgg; omega
/-- The next capture's slot. -/
theorem CompO.setK (h : CompO w m ao cap I k xs) (k' : Nat) : CompO (w.setCell ⟨m, 1, none⟩ (.int .i64 k')) m ao cap I k' xs := by
  refine ⟨blk_set h.blk 1 _, owns_kept h.own (fun g o hg ho => ?_), h.els.kept (fun q o hX ho => ?_) (fun _ _ h => h)⟩
  · rw [Below.heap_setCell _ _ _ _ (show g ≠ m from (h.row g hg).1)]; exact ho
  · rw [Below.heap_setCell _ _ _ _ (show q ≠ m from fun e => hX (.inl e))]; exact ho
end

theorem CRun.head {p : Pt} {ps : List Pt} {I : List Ins} {k : Nat} {I' : List Ins} {k' : Nat} (h : CRun (p :: ps) I k I' k') : ∃ I1 k1, CRun [p] I k I1 k1 ∧ CRun ps I1 k1 I' k' := by
  cases h with
  | one h => exact ⟨_, _, .one .nil, h⟩
  | star h => exact ⟨_, _, .star .nil, h⟩
  | plus h => exact ⟨_, _, .plus .nil, h⟩
  | minus h => exact ⟨_, _, .minus .nil, h⟩
  | opt h => exact ⟨_, _, .opt .nil, h⟩
  | pos h => exact ⟨_, _, .pos .nil, h⟩
  | cap h1 h => exact ⟨_, _, .cap h1 .nil, h⟩
  | num h => exact ⟨_, _, .num .nil, h⟩
  | brace h => exact ⟨_, _, .brace .nil, h⟩
theorem CRun.grows {ps : List Pt} {I : List Ins} {k : Nat} {I' : List Ins} {k' : Nat} (h : CRun ps I k I' k') : I.length ≤ I'.length ∧ k ≤ k' := by
  induction h with
  | nil => omega
  | cap _ _ ih1 ih2 => simp at *; omega
  | _ => simp at *; omega
/-- What a call of the compiler leaves. -/
def CompPost (w : World) (m : Nat) (ao : Option Addr) (I' : List Ins) (k' : Nat) (e : Ending) (w' : World) : Prop :=
  ∃ ao' cap' xs', e = .returned (.slice ao' I'.length cap') ∧ CompO w' m ao' cap' I' k' xs' ∧ Moved w w' m ao ao'



@[go_sem] theorem ta_single_seq (v : Value) (w : World) : (Instr.typeAssert (.iface 95 v) 105 66 true).run Tryf.prog w = .ok (.tuple #[.pointer none, .bool false]) w := by kernel_rfl
@[go_sem] theorem ta_single_rep (v : Value) (w : World) : (Instr.typeAssert (.iface 95 v) 105 109 true).run Tryf.prog w = .ok (.tuple #[.pointer none, .bool false]) w := by kernel_rfl
@[go_sem] theorem ta_single_pos (v : Value) (w : World) : (Instr.typeAssert (.iface 95 v) 105 101 true).run Tryf.prog w = .ok (.tuple #[.pointer none, .bool false]) w := by kernel_rfl
@[go_sem] theorem ta_single_cap (v : Value) (w : World) : (Instr.typeAssert (.iface 95 v) 105 104 true).run Tryf.prog w = .ok (.tuple #[.pointer none, .bool false]) w := by kernel_rfl
@[go_sem] theorem ta_single_brace (v : Value) (w : World) : (Instr.typeAssert (.iface 95 v) 105 92 true).run Tryf.prog w = .ok (.tuple #[.pointer none, .bool false]) w := by kernel_rfl
@[go_sem] theorem ta_single_num (v : Value) (w : World) : (Instr.typeAssert (.iface 95 v) 105 89 true).run Tryf.prog w = .ok (.tuple #[.pointer none, .bool false]) w := by kernel_rfl
@[go_sem] theorem ta_seq_single (v : Value) (w : World) : (Instr.typeAssert (.iface 66 v) 105 95 true).run Tryf.prog w = .ok (.tuple #[.pointer none, .bool false]) w := by kernel_rfl
@[go_sem] theorem ta_seq_seq (v : Value) (w : World) : (Instr.typeAssert (.iface 66 v) 105 66 true).run Tryf.prog w = .ok (.tuple #[v, .bool true]) w := by kernel_rfl
@[go_sem] theorem ta_seq_rep (v : Value) (w : World) : (Instr.typeAssert (.iface 66 v) 105 109 true).run Tryf.prog w = .ok (.tuple #[.pointer none, .bool false]) w := by kernel_rfl
@[go_sem] theorem ta_seq_pos (v : Value) (w : World) : (Instr.typeAssert (.iface 66 v) 105 101 true).run Tryf.prog w = .ok (.tuple #[.pointer none, .bool false]) w := by kernel_rfl
@[go_sem] theorem ta_seq_cap (v : Value) (w : World) : (Instr.typeAssert (.iface 66 v) 105 104 true).run Tryf.prog w = .ok (.tuple #[.pointer none, .bool false]) w := by kernel_rfl
@[go_sem] theorem ta_seq_brace (v : Value) (w : World) : (Instr.typeAssert (.iface 66 v) 105 92 true).run Tryf.prog w = .ok (.tuple #[.pointer none, .bool false]) w := by kernel_rfl
@[go_sem] theorem ta_seq_num (v : Value) (w : World) : (Instr.typeAssert (.iface 66 v) 105 89 true).run Tryf.prog w = .ok (.tuple #[.pointer none, .bool false]) w := by kernel_rfl
@[go_sem] theorem ta_rep_seq (v : Value) (w : World) : (Instr.typeAssert (.iface 109 v) 105 66 true).run Tryf.prog w = .ok (.tuple #[.pointer none, .bool false]) w := by kernel_rfl
@[go_sem] theorem ta_rep_rep (v : Value) (w : World) : (Instr.typeAssert (.iface 109 v) 105 109 true).run Tryf.prog w = .ok (.tuple #[v, .bool true]) w := by kernel_rfl
@[go_sem] theorem ta_rep_pos (v : Value) (w : World) : (Instr.typeAssert (.iface 109 v) 105 101 true).run Tryf.prog w = .ok (.tuple #[.pointer none, .bool false]) w := by kernel_rfl
@[go_sem] theorem ta_rep_cap (v : Value) (w : World) : (Instr.typeAssert (.iface 109 v) 105 104 true).run Tryf.prog w = .ok (.tuple #[.pointer none, .bool false]) w := by kernel_rfl
@[go_sem] theorem ta_rep_brace (v : Value) (w : World) : (Instr.typeAssert (.iface 109 v) 105 92 true).run Tryf.prog w = .ok (.tuple #[.pointer none, .bool false]) w := by kernel_rfl
@[go_sem] theorem ta_rep_num (v : Value) (w : World) : (Instr.typeAssert (.iface 109 v) 105 89 true).run Tryf.prog w = .ok (.tuple #[.pointer none, .bool false]) w := by kernel_rfl
@[go_sem] theorem ta_pos_seq (v : Value) (w : World) : (Instr.typeAssert (.iface 101 v) 105 66 true).run Tryf.prog w = .ok (.tuple #[.pointer none, .bool false]) w := by kernel_rfl
@[go_sem] theorem ta_pos_rep (v : Value) (w : World) : (Instr.typeAssert (.iface 101 v) 105 109 true).run Tryf.prog w = .ok (.tuple #[.pointer none, .bool false]) w := by kernel_rfl
@[go_sem] theorem ta_pos_pos (v : Value) (w : World) : (Instr.typeAssert (.iface 101 v) 105 101 true).run Tryf.prog w = .ok (.tuple #[v, .bool true]) w := by kernel_rfl
@[go_sem] theorem ta_pos_cap (v : Value) (w : World) : (Instr.typeAssert (.iface 101 v) 105 104 true).run Tryf.prog w = .ok (.tuple #[.pointer none, .bool false]) w := by kernel_rfl
@[go_sem] theorem ta_pos_brace (v : Value) (w : World) : (Instr.typeAssert (.iface 101 v) 105 92 true).run Tryf.prog w = .ok (.tuple #[.pointer none, .bool false]) w := by kernel_rfl
@[go_sem] theorem ta_pos_num (v : Value) (w : World) : (Instr.typeAssert (.iface 101 v) 105 89 true).run Tryf.prog w = .ok (.tuple #[.pointer none, .bool false]) w := by kernel_rfl
@[go_sem] theorem ta_cap_seq (v : Value) (w : World) : (Instr.typeAssert (.iface 104 v) 105 66 true).run Tryf.prog w = .ok (.tuple #[.pointer none, .bool false]) w := by kernel_rfl
@[go_sem] theorem ta_cap_rep (v : Value) (w : World) : (Instr.typeAssert (.iface 104 v) 105 109 true).run Tryf.prog w = .ok (.tuple #[.pointer none, .bool false]) w := by kernel_rfl
@[go_sem] theorem ta_cap_pos (v : Value) (w : World) : (Instr.typeAssert (.iface 104 v) 105 101 true).run Tryf.prog w = .ok (.tuple #[.pointer none, .bool false]) w := by kernel_rfl
@[go_sem] theorem ta_cap_cap (v : Value) (w : World) : (Instr.typeAssert (.iface 104 v) 105 104 true).run Tryf.prog w = .ok (.tuple #[v, .bool true]) w := by kernel_rfl
@[go_sem] theorem ta_cap_brace (v : Value) (w : World) : (Instr.typeAssert (.iface 104 v) 105 92 true).run Tryf.prog w = .ok (.tuple #[.pointer none, .bool false]) w := by kernel_rfl
@[go_sem] theorem ta_cap_num (v : Value) (w : World) : (Instr.typeAssert (.iface 104 v) 105 89 true).run Tryf.prog w = .ok (.tuple #[.pointer none, .bool false]) w := by kernel_rfl
@[go_sem] theorem ta_brace_seq (v : Value) (w : World) : (Instr.typeAssert (.iface 92 v) 105 66 true).run Tryf.prog w = .ok (.tuple #[.pointer none, .bool false]) w := by kernel_rfl
@[go_sem] theorem ta_brace_rep (v : Value) (w : World) : (Instr.typeAssert (.iface 92 v) 105 109 true).run Tryf.prog w = .ok (.tuple #[.pointer none, .bool false]) w := by kernel_rfl
@[go_sem] theorem ta_brace_pos (v : Value) (w : World) : (Instr.typeAssert (.iface 92 v) 105 101 true).run Tryf.prog w = .ok (.tuple #[.pointer none, .bool false]) w := by kernel_rfl
@[go_sem] theorem ta_brace_cap (v : Value) (w : World) : (Instr.typeAssert (.iface 92 v) 105 104 true).run Tryf.prog w = .ok (.tuple #[.pointer none, .bool false]) w := by kernel_rfl
@[go_sem] theorem ta_brace_brace (v : Value) (w : World) : (Instr.typeAssert (.iface 92 v) 105 92 true).run Tryf.prog w = .ok (.tuple #[v, .bool true]) w := by kernel_rfl
@[go_sem] theorem ta_brace_num (v : Value) (w : World) : (Instr.typeAssert (.iface 92 v) 105 89 true).run Tryf.prog w = .ok (.tuple #[.pointer none, .bool false]) w := by kernel_rfl
@[go_sem] theorem ta_num_seq (v : Value) (w : World) : (Instr.typeAssert (.iface 89 v) 105 66 true).run Tryf.prog w = .ok (.tuple #[.pointer none, .bool false]) w := by kernel_rfl
@[go_sem] theorem ta_num_rep (v : Value) (w : World) : (Instr.typeAssert (.iface 89 v) 105 109 true).run Tryf.prog w = .ok (.tuple #[.pointer none, .bool false]) w := by kernel_rfl
@[go_sem] theorem ta_num_pos (v : Value) (w : World) : (Instr.typeAssert (.iface 89 v) 105 101 true).run Tryf.prog w = .ok (.tuple #[.pointer none, .bool false]) w := by kernel_rfl
@[go_sem] theorem ta_num_cap (v : Value) (w : World) : (Instr.typeAssert (.iface 89 v) 105 104 true).run Tryf.prog w = .ok (.tuple #[.pointer none, .bool false]) w := by kernel_rfl
@[go_sem] theorem ta_num_brace (v : Value) (w : World) : (Instr.typeAssert (.iface 89 v) 105 92 true).run Tryf.prog w = .ok (.tuple #[.pointer none, .bool false]) w := by kernel_rfl
@[go_sem] theorem ta_num_num (v : Value) (w : World) : (Instr.typeAssert (.iface 89 v) 105 89 true).run Tryf.prog w = .ok (.tuple #[v, .bool true]) w := by kernel_rfl

theorem ClAt.iface {X : Nat → Prop} {w : World} {c : Cl} {v : Value} (h : ClAt X w c v) : ∃ T a, v = .iface T (.pointer a) := by
  cases c with
  | dot => obtain ⟨b, rfl⟩ := h; exact ⟨_, _, rfl⟩
  | el e => exact ElAt.form h
  | set neg l => obtain ⟨b, ao, cap, vs, rfl, _⟩ := h; exact ⟨_, _, rfl⟩
theorem news_n {W : World} {l : List Value} {T : TypeId} {n : Nat} (h : W.heap.size = n) : ∀ (j : Nat) (u : Value), l[j]? = some u → (W.alloc (.cells l.toArray T)).cell? ((⟨n, 0, none⟩ : Addr).add j) = some u := by
  subst h
  intro j u hj
  rw [addr_add, Nat.zero_add]
  exact blk_cell (blk_new _ _) j _ (by simpa using hj)
theorem news_nd {W : World} {l : List Value} {T : TypeId} {n : Nat} (h : W.heap.size = n) : ∀ (j : Nat) (u : Value), l[j]? = some u → ((W.alloc (.cells l.toArray T)).drew).cell? ((⟨n, 0, none⟩ : Addr).add j) = some u := news_n h

/-- What a call of the compiler over one item needs and does. -/
def CompSpec (p : Pt) : Prop := ∀ (w : World) (v : Value) (m g : Nat) (ao : Option Addr) (cap : Nat) (I : List Ins) (k : Nat) (xs : List Value) (I' : List Ins) (k' : Nat),
  CompO w m ao cap I k xs → PtsAt (CX m ao) w [p] [v] → w.cell? ⟨g, 0, none⟩ = some (.pointer (some ⟨m, 0, none⟩)) → CRun [p] I k I' k' → I'.length ≤ 16777216 → k' ≤ 1073741824 →
  Calls Tryf.prog 20 #[v, .slice (some ⟨g, 0, none⟩) 1 1] w (CompPost w m ao I' k')
/-- The same over a sequence at block q. -/
def SeqSpec (l : List Pt) : Prop := ∀ (w : World) (m g q : Nat) (must tail : Bool) (aq : Option Addr) (capq : Nat) (us : List Value) (ao : Option Addr) (cap : Nat) (I : List Ins) (k : Nat) (xs : List Value) (I' : List Ins) (k' : Nat),
  CompO w m ao cap I k xs → w.heap[q]? = some (.cells #[.bool must, .bool tail, .slice aq l.length capq] 76 (0, 0)) → ¬ CX m ao q → w.ownsRow 0 105 1 (.slice aq l.length capq) l.length us → (∀ gg, blkOf aq = some gg → ¬ CX m ao gg) → PtsAt (CX m ao) w l us →
  w.cell? ⟨g, 0, none⟩ = some (.pointer (some ⟨m, 0, none⟩)) → CRun l I k I' k' → I'.length ≤ 16777216 → k' ≤ 1073741824 →
  Calls Tryf.prog 20 #[.iface 66 (.pointer (some ⟨q, 0, none⟩)), .slice (some ⟨g, 0, none⟩) 1 1] w (CompPost w m ao I' k')
/-- One of the items. -/
theorem PtsAt.get {X : Nat → Prop} {w : World} {ps : List Pt} {vs : List Value} (h : PtsAt X w ps vs) (i : Nat) (hi : i < ps.length) : ∃ v, vs[i]? = some v ∧ PtsAt X w [ps[i]] [v] := by
  have e : ps = ps.take i ++ ([ps[i]] ++ ps.drop (i + 1)) := by
    rw [List.singleton_append, ← List.drop_eq_getElem_cons hi, List.take_append_drop]
  generalize hp : ps[i] = p at e ⊢
  have hl : (ps.take i).length = i := by rw [List.length_take]; omega
  rw [e] at h
  obtain ⟨us, ts, rfl, _, h2⟩ := PtsAt.split (ps.take i) h
  obtain ⟨a, b, rfl, h3, _⟩ := PtsAt.split [p] h2
  have h1 : us.length = i := by rename_i h1 _ ; rw [h1.length, hl]
  have h4 := h3.length
  match a, h4 with
  | [v], _ => exact ⟨v, by rw [List.getElem?_append_right (by omega), h1, Nat.sub_self]; rfl, h3⟩
theorem Moved.row0 {w w' : World} {m : Nat} {ao ao' : Option Addr} (h : Moved w w' m ao ao') {e : TypeId} {sz : Nat} {aq : Option Addr} {n cap : Nat} {xs : List Value} (ho : w.ownsRow 0 e sz (.slice aq n cap) n xs) (hX : ∀ g, blkOf aq = some g → ¬ CX m ao g) : w'.ownsRow 0 e sz (.slice aq n cap) n xs :=
  owns_kept ho (fun g o hg hh => h.keeps g o (hX g hg) hh)
theorem Moved.notX {w w' : World} {m : Nat} {ao ao' : Option Addr} (h : Moved w w' m ao ao') {q : Nat} (hq : q < w.heap.size) (hX : ¬ CX m ao q) : ¬ CX m ao' q := fun hx => hX (h.back q hq hx)
theorem comp_drew {w : World} {m : Nat} {ao : Option Addr} {cap : Nat} {I : List Ins} {k : Nat} {xs : List Value} (h : CompO w m ao cap I k xs) : CompO w.drew m ao cap I k xs := h.drewN 1
/-- An append behind new blocks: the state and what it leaves. -/
theorem comp_push {w0 w w3 : World} {m g1 c1 H n : Nat} {ao : Option Addr} {cap : Nat} {I J : List Ins} {k : Nat} {xs news : List Value} {ao0 : Option Addr} (hm0 : Moved w0 w m ao0 ao) (h : CompO w m ao cap I k xs) (hj : InssAt (CX m ao) w J news) (hn : J.length = n)
    (hgrow : w.grownBy w3 (Value.slice ao I.length cap).ownBlock) (hown : w3.ownsRow 0 123 4 (.slice (some ⟨g1, 0, none⟩) (I.length + n) c1) (I.length + n) (xs ++ news)) (hat : (Value.slice ao I.length cap).ownBlock = some g1 ∨ g1 = H) (hH : w.heap.size ≤ H := by simp) :
    CompO (w3.setCell ⟨m, 0, none⟩ (.slice (some ⟨g1, 0, none⟩) (I.length + n) c1)) m (some ⟨g1, 0, none⟩) c1 (I ++ J) k (xs ++ news) ∧ Moved w0 (w3.setCell ⟨m, 0, none⟩ (.slice (some ⟨g1, 0, none⟩) (I.length + n) c1)) m ao0 (some ⟨g1, 0, none⟩) := by
  rw [ownBlock_slice] at hgrow hat
  obtain ⟨h1, h2⟩ := h.push hj hn hgrow hown (hat.imp id (fun e => by omega))
  exact ⟨h1, hm0.trans h2⟩
theorem compPost_mk {w w' : World} {m : Nat} {ao ao' : Option Addr} {cap' : Nat} {I' : List Ins} {k' L : Nat} {xs' : List Value} (hL : I'.length = L) (h1 : CompO w' m ao' cap' I' k' xs') (h2 : Moved w w' m ao ao') : CompPost w m ao I' k' (.returned (.slice ao' L cap')) w' := by
  subst hL
  exact ⟨_, _, _, rfl, h1, h2⟩
theorem comp_k {w : World} {m : Nat} {ao : Option Addr} {cap : Nat} {I : List Ins} {k k' : Nat} {xs : List Value} {z : Int} (h : CompO w m ao cap I k xs) (hz : z = (k' : Int)) : CompO (w.setCell ⟨m, 1, none⟩ (.int .i64 z)) m ao cap I k' xs := by
  subst hz
  exact h.setK k'


end Go.Proofs.YtcfhhcjcnafcjaaFmt
