/-
  Small laws on worlds: a block known whole, a store into it, what turns one block alone. They speak of no program. No condition.
-/
import Derived.Test.YtcfhhcjcnafcjaaFmtRows
import Derived.WalkKit
import Derived.ProofKit
import Derived.OpenShut
import Derived.Lib.Hide
import Derived.Deep.QuietTactic
import Derived.BigQuiet
import Derived.Deep.OwnRows
import Derived.Lib.SliceRun
import Derived.WalkSpells
import Derived.ArgAppend
import Derived.OwnWalk
namespace Go.Proofs.YtcfhhcjcnafcjaaFmt
open Go.RowKit

theorem ret_int {k : IntKind} {a b : Int} (h : a = b) : Ending.returned (.int k a) = .returned (.int k b) := by rw [h]
theorem ret_bool {a b : Bool} (h : a = b) : Ending.returned (.bool a) = .returned (.bool b) := by rw [h]

theorem blk_lt {w : World} {b : Nat} {o : Obj} (h : w.heap[b]? = some o) : b < w.heap.size := by
  rcases Nat.lt_or_ge b w.heap.size with h' | h'
  · exact h'
  · simp [Array.getElem?_eq_none h'] at h
theorem blk_cell {w : World} {b : Nat} {cs : Array Value} {T : TypeId} {r : Nat × Nat} (h : w.heap[b]? = some (.cells cs T r)) (i : Nat) (v : Value) (hv : cs[i]? = some v) : w.cell? ⟨b, i, none⟩ = some v := by
  simp [World.cell?, h, hv]
theorem blk_free {w : World} {b : Nat} {cs : Array Value} {T : TypeId} (h : w.heap[b]? = some (.cells cs T (0, 0))) (i : Nat) : w.frozen? ⟨b, i, none⟩ = false := by
  simp [World.frozen?, h]
theorem blk_set {w : World} {b : Nat} {cs : Array Value} {T : TypeId} {r : Nat × Nat} (h : w.heap[b]? = some (.cells cs T r)) (i : Nat) (v : Value) :
    (w.setCell ⟨b, i, none⟩ v).heap[b]? = some (.cells (cs.setIfInBounds i v) T r) := by
  have hlt := blk_lt h
  have h' : w.heap[b] = .cells cs T r := by simpa [Array.getElem?_eq_getElem hlt] using h
  show (w.heap.modify b _)[b]? = _
  rw [Array.getElem?_eq_getElem (by simpa using hlt), Array.getElem_modify_self, h']
  simp
theorem blk_drew {w : World} {b : Nat} {o : Obj} (h : w.heap[b]? = some o) : w.drew.heap[b]? = some o := h
theorem blk_drewN {w : World} {b : Nat} {o : Obj} (h : w.heap[b]? = some o) (n : Nat) : (w.drewN n).heap[b]? = some o := h
theorem blk_new (w : World) (o : Obj) : (w.alloc o).heap[w.heap.size]? = some o := by
  show (w.heap.push o)[w.heap.size]? = _
  simp
theorem blk_alloc {w : World} {b : Nat} {o : Obj} (h : w.heap[b]? = some o) (o' : Obj) : (w.alloc o').heap[b]? = some o :=
  (Below.heap_alloc w o' b (blk_lt h)).trans h
theorem blk_grown {w w' : World} {b : Nat} {o : Obj} {row : Option Nat} (h : w.heap[b]? = some o) (hg : w.grownBy w' row) (hne : some b ≠ row) : w'.heap[b]? = some o :=
  (hg.block b (blk_lt h) hne).trans h
theorem blk_below {w w' : World} {b B : Nat} {o : Obj} (h : w.heap[b]? = some o) (hb : Below B w w') (hlt : b < B) : w'.heap[b]? = some o :=
  (hb.block b hlt).trans h

theorem one_refl (w : World) (row : Option Nat) : w.grownBy w row := ⟨rfl, rfl, rfl, Nat.le_refl _, fun _ _ _ => rfl⟩
theorem one_trans {a b c : World} {row : Option Nat} (h : a.grownBy b row) (k : b.grownBy c row) : a.grownBy c row :=
  ⟨k.os.trans h.os, k.tape.trans h.tape, k.output.trans h.output, Nat.le_trans h.size k.size, fun i hi hne => (k.block i (Nat.lt_of_lt_of_le hi h.size) hne).trans (h.block i hi hne)⟩
theorem one_drewN {a w : World} {row : Option Nat} (h : a.grownBy w row) (n : Nat) : a.grownBy (w.drewN n) row := ⟨h.os, h.tape, h.output, h.size, h.block⟩
theorem one_drew {a w : World} {row : Option Nat} (h : a.grownBy w row) : a.grownBy w.drew row := ⟨h.os, h.tape, h.output, h.size, h.block⟩
theorem one_alloc {a w : World} {row : Option Nat} (h : a.grownBy w row) (o : Obj) : a.grownBy (w.alloc o) row :=
  ⟨h.os, h.tape, h.output, Nat.le_trans h.size (by simp), fun i hi hne => (Below.heap_alloc w o i (Nat.lt_of_lt_of_le hi h.size)).trans (h.block i hi hne)⟩
theorem one_setCell {a w : World} {g : Nat} (h : a.grownBy w (some g)) {p : Addr} (hp : p.block = g ∨ a.heap.size ≤ p.block) (u : Value) : a.grownBy (w.setCell p u) (some g) :=
  ⟨h.os, h.tape, h.output, by simpa [World.setCell] using h.size, fun i hi hne => (Below.heap_setCell w p u i (by
    rintro rfl
    rcases hp with hp | hp
    · exact hne (by rw [hp])
    · omega)).trans (h.block i hi hne)⟩
theorem one_of_below {a w : World} {B : Nat} (h : Below B a w) (hB : a.heap.size ≤ B) (row : Option Nat) : a.grownBy w row :=
  ⟨h.os, h.tape, h.output, h.size, fun i hi _ => h.block i (Nat.lt_of_lt_of_le hi hB)⟩
theorem one_below {a w : World} {g B : Nat} (h : a.grownBy w (some g)) (hB : B ≤ g) (hs : B ≤ a.heap.size) : Below B a w :=
  ⟨h.os, h.tape, h.output, h.size, fun i hi => h.block i (Nat.lt_of_lt_of_le hi hs) (fun e => by injection e with e; omega)⟩
theorem cell_one {w w' : World} {g : Nat} (h : w.grownBy w' (some g)) {a : Addr} {v : Value} (hc : w.cell? a = some v) (hne : a.block ≠ g) : w'.cell? a = some v :=
  h.cell hc (fun e => hne (by injection e))
theorem below_drewN {B : Nat} {a w : World} (h : Below B a w) (n : Nat) : Below B a (w.drewN n) := ⟨h.os, h.tape, h.output, h.size, h.block⟩
theorem lt_of_cell {w : World} {a : Addr} {v : Value} (h : w.cell? a = some v) : a.block < w.heap.size := by
  rcases Nat.lt_or_ge a.block w.heap.size with h' | h'
  · exact h'
  · simp [World.cell?, Array.getElem?_eq_none h'] at h

theorem addr_add (b off j : Nat) : (⟨b, off, none⟩ : Addr).add j = ⟨b, off + j, none⟩ := by
  unfold Addr.add
  split
  · rename_i h; subst h; rfl
  · rfl
/-- The numbers zs lie one after the other from the address a on (nothing is said of a where there are none). -/
def RowInt (k : IntKind) (w : World) (a : Option Addr) (zs : List Int) : Prop :=
  0 < zs.length → ∃ b off, a = some ⟨b, off, none⟩ ∧ ∀ i, i < zs.length → w.cell? ⟨b, off + i, none⟩ = some (.int k (zs.getD i 0))
theorem RowInt.below {k : IntKind} {w w' : World} {a : Option Addr} {zs : List Int} {B : Nat} (h : RowInt k w a zs) (hb : Below B w w') (hB : w.heap.size ≤ B) : RowInt k w' a zs := fun h0 => by
  obtain ⟨b, off, h1, h2⟩ := h h0
  exact ⟨b, off, h1, fun i hi => (hb.cell (p := ⟨b, off + i, none⟩) (Nat.lt_of_lt_of_le (lt_of_cell (h2 i hi)) hB)).trans (h2 i hi)⟩
theorem RowInt.grown {k : IntKind} {w w' : World} {a : Option Addr} {zs : List Int} {row : Option Nat} (h : RowInt k w a zs) (hg : w.grownBy w' row) (hn : ∀ x, a = some x → some x.block ≠ row) : RowInt k w' a zs := fun h0 => by
  obtain ⟨b, off, h1, h2⟩ := h h0
  exact ⟨b, off, h1, fun i hi => hg.cell (h2 i hi) (hn ⟨b, off, none⟩ h1)⟩
theorem RowInt.of_row {k : IntKind} {w : World} {g : Nat} {t : TypeId} {n : Nat} {f : Nat → Value} {zs : List Int} (h : w.rowIs g t n f) (hn : zs.length ≤ n) (hf : ∀ i, i < zs.length → f i = .int k (zs.getD i 0)) : RowInt k w (some ⟨g, 0, none⟩) zs :=
  fun _ => ⟨g, 0, rfl, fun i hi => by rw [Nat.zero_add, h.cell (by omega), hf i hi]⟩
/-- A slice value of something that came in: a nil one has nothing. -/
def Fresh (B : Nat) (w : World) (a : Option Addr) : Prop := ∀ x, a = some x → B ≤ x.block ∧ x.block < w.heap.size

/-- What a copy by hand gives: the same numbers in new memory; nothing that was there is written. -/
def Copied (k : IntKind) (w : World) (zs : List Int) (e : Ending) (w' : World) : Prop :=
  ∃ a' c', e = .returned (.slice a' zs.length c') ∧ (a' = none → zs.length = 0) ∧ Fresh w.heap.size w' a' ∧ RowInt k w' a' zs ∧ Below w.heap.size w w'

def blkOf (ao : Option Addr) : Option Nat := ao.map (·.block)
theorem ownBlock_slice (ao : Option Addr) (n cap : Nat) : (Value.slice ao n cap).ownBlock = blkOf ao := by cases ao <;> rfl
theorem owns_base {w : World} {B B' : Nat} {e : TypeId} {size : Nat} {v : Value} {n : Nat} {xs : List Value} (h : w.ownsRow B e size v n xs) (hB : B' ≤ B) : w.ownsRow B' e size v n xs := by
  refine ⟨h.1, ?_⟩
  rcases h.2 with h2 | ⟨g, c, cur, h1, hb, r⟩
  · exact .inl h2
  · exact .inr ⟨g, c, cur, h1, Nat.le_trans hB hb, r⟩

/-- 'out = append(out, x..)' on a row of the call's own, with what is known of where the new row lies: where it lay, or in a new block. -/
theorem wpList_push {P : Program} (w : World) {ops : Array Oper} {rest : List Oper} {o : Oper} {a : Act} {Q : Exit → Act → World → Prop}
    (hg : o.guard = none) (s x : Operand) (t : TypeId) (hop : o.op = Op.call { callee := Callee.builtin Builtin.append, args := #[s, x], argTypes := #[t, t] })
    (B : Nat) (e : TypeId) (i : TypeInfo) (z : Value) (size bytes : Nat) (h1 : P.underlying t = some (.slice e)) (h2 : P.info? e = some i) (h3 : i.zero = some z) (h4 : i.size = size) (h5 : i.bytes = bytes) (h6 : z.cells.size = size) (h7 : 0 < size)
    (ao : Option Addr) (n cap : Nat) (xs : List Value) (hs : a.eval s = .slice ao n cap) (hown : w.ownsRow B e size (.slice ao n cap) n xs)
    (ad : Addr) (m c : Nat) (news : List Value) (hx : a.eval x = .slice (some ad) m c) (hn : news.length = m * size) (hc : ∀ j u, news[j]? = some u → w.cell? (ad.add j) = some u) (h1c : ∀ u ∈ news, u.oneCell' = true)
    (hm : 0 < m) (b1 : n + m ≤ maxLen) (b2 : (n + m) * bytes ≤ 140737488355328) (hB : B ≤ w.heap.size)
    (hK : ∀ g' cap' w', w'.ownsRow B e size (.slice (some ⟨g', 0, none⟩) (n + m) cap') (n + m) (xs ++ news) → w.grownBy w' (blkOf ao) → (blkOf ao = some g' ∨ w.heap.size ≤ g') →
      wpList P ops Q rest (a.put o.dst (.slice (some ⟨g', 0, none⟩) (n + m) cap')) w') :
    wpList P ops Q (o :: rest) a w := by
  by_cases hfit : n + m ≤ cap
  · obtain ⟨g, rfl⟩ : ∃ g, ao = some ⟨g, 0, none⟩ := by
      rcases hown.2 with ⟨h, _⟩ | ⟨g, c', cur, h, _⟩
      · simp only [Value.slice.injEq] at h; omega
      · simp only [Value.slice.injEq] at h; exact ⟨g, h.1⟩
    refine wpList_append_fits w hg s x t hop B e i size h1 h2 h4 g n cap xs hs hown ad m c news hx hn hc h1c hfit fun w' r1 r2 => ?_
    exact hK g cap w' r1 r2 (.inl rfl)
  · refine wpList_append_grows w hg s x t hop e i z size bytes h1 h2 h3 h4 h5 h6 h7 ao n cap xs hs ?_ hown.1 ?_ ad m c news hx hn hc h1c (by omega) b1 b2 fun v' w' r1 r2 => ?_
    · intro e0
      rcases hown.2 with ⟨h, _⟩ | ⟨g, c', cur, h, _⟩
      · simp only [Value.slice.injEq] at h; exact ⟨h.2.1, h.2.2⟩
      · simp only [Value.slice.injEq, e0] at h; exact absurd h.1 (by simp)
    · intro b hb j u hj
      subst hb
      rcases hown.2 with ⟨h, _⟩ | ⟨g, c', cur, h, _⟩
      · simp at h
      · simp only [Value.slice.injEq, Option.some.injEq] at h
        obtain ⟨hb, -, -⟩ := h
        subst hb
        rw [addr_add, Nat.zero_add, hown.cellAt j (by rw [← hown.1]; exact (List.getElem?_eq_some_iff.1 hj).1)]
        exact hj
    · rcases r1.2 with ⟨h, h0⟩ | ⟨g, c', cur, h, hb, _⟩
      · omega
      · subst h
        exact hK g c' w' (owns_base r1 hB) ⟨r2.os, r2.tape, r2.output, r2.size, fun k hk _ => r2.block k hk (by simp)⟩ (.inr hb)

end Go.Proofs.YtcfhhcjcnafcjaaFmt
