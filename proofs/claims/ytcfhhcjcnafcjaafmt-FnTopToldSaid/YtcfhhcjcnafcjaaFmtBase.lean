/-
  Worlds, rows, what a call may have turned, the scanner's contracts, bytes, newError. Conditions as each statement says.
-/
import Derived.Test.YtcfhhcjcnafcjaaFmtRows
import Derived.WalkKit
import Derived.ProofKit
import Derived.OpenShut
import Derived.Lib.Hide
import Derived.Deep.QuietTactic
import Derived.BigQuiet
import Derived.Deep.OwnRows
import Derived.Lib.SliceRun
import Derived.WalkSpells
import Derived.ArgAppend
import Derived.OwnWalk
import Derived.Lib.ConvBytes
namespace Go.Proofs.YtcfhhcjcnafcjaaFmt
open Go.RowKit
set_option linter.unusedVariables false
set_option linter.unusedSimpArgs false


theorem ret_int {k : IntKind} {a b : Int} (h : a = b) : Ending.returned (.int k a) = .returned (.int k b) := by rw [h]
theorem ret_bool {a b : Bool} (h : a = b) : Ending.returned (.bool a) = .returned (.bool b) := by rw [h]

theorem blk_lt {w : World} {b : Nat} {o : Obj} (h : w.heap[b]? = some o) : b < w.heap.size := by
  rcases Nat.lt_or_ge b w.heap.size with h' | h'
  · exact h'
  · simp [Array.getElem?_eq_none h'] at h
theorem blk_cell {w : World} {b : Nat} {cs : Array Value} {T : TypeId} {r : Nat × Nat} (h : w.heap[b]? = some (.cells cs T r)) (i : Nat) (v : Value) (hv : cs[i]? = some v) : w.cell? ⟨b, i, none⟩ = some v := by
  simp [World.cell?, h, hv]
theorem blk_free {w : World} {b : Nat} {cs : Array Value} {T : TypeId} (h : w.heap[b]? = some (.cells cs T (0, 0))) (i : Nat) : w.frozen? ⟨b, i, none⟩ = false := by
  simp [World.frozen?, h]
theorem blk_set {w : World} {b : Nat} {cs : Array Value} {T : TypeId} {r : Nat × Nat} (h : w.heap[b]? = some (.cells cs T r)) (i : Nat) (v : Value) :
    (w.setCell ⟨b, i, none⟩ v).heap[b]? = some (.cells (cs.setIfInBounds i v) T r) := by
  have hlt := blk_lt h
  have h' : w.heap[b] = .cells cs T r := by simpa [Array.getElem?_eq_getElem hlt] using h
  show (w.heap.modify b _)[b]? = _
  rw [Array.getElem?_eq_getElem (by simpa using hlt), Array.getElem_modify_self, h']
  simp
theorem blk_drew {w : World} {b : Nat} {o : Obj} (h : w.heap[b]? = some o) : w.drew.heap[b]? = some o := h
theorem blk_drewN {w : World} {b : Nat} {o : Obj} (h : w.heap[b]? = some o) (n : Nat) : (w.drewN n).heap[b]? = some o := h
theorem blk_new (w : World) (o : Obj) : (w.alloc o).heap[w.heap.size]? = some o := by
  show (w.heap.push o)[w.heap.size]? = _
  simp
theorem blk_alloc {w : World} {b : Nat} {o : Obj} (h : w.heap[b]? = some o) (o' : Obj) : (w.alloc o').heap[b]? = some o :=
  (Below.heap_alloc w o' b (blk_lt h)).trans h
theorem blk_grown {w w' : World} {b : Nat} {o : Obj} {row : Option Nat} (h : w.heap[b]? = some o) (hg : w.grownBy w' row) (hne : some b ≠ row) : w'.heap[b]? = some o :=
  (hg.block b (blk_lt h) hne).trans h
theorem blk_below {w w' : World} {b B : Nat} {o : Obj} (h : w.heap[b]? = some o) (hb : Below B w w') (hlt : b < B) : w'.heap[b]? = some o :=
  (hb.block b hlt).trans h

theorem one_refl (w : World) (row : Option Nat) : w.grownBy w row := ⟨rfl, rfl, rfl, Nat.le_refl _, fun _ _ _ => rfl⟩
theorem one_trans {a b c : World} {row : Option Nat} (h : a.grownBy b row) (k : b.grownBy c row) : a.grownBy c row :=
  ⟨k.os.trans h.os, k.tape.trans h.tape, k.output.trans h.output, Nat.le_trans h.size k.size, fun i hi hne => (k.block i (Nat.lt_of_lt_of_le hi h.size) hne).trans (h.block i hi hne)⟩
theorem one_drewN {a w : World} {row : Option Nat} (h : a.grownBy w row) (n : Nat) : a.grownBy (w.drewN n) row := ⟨h.os, h.tape, h.output, h.size, h.block⟩
theorem one_drew {a w : World} {row : Option Nat} (h : a.grownBy w row) : a.grownBy w.drew row := ⟨h.os, h.tape, h.output, h.size, h.block⟩
theorem one_alloc {a w : World} {row : Option Nat} (h : a.grownBy w row) (o : Obj) : a.grownBy (w.alloc o) row :=
  ⟨h.os, h.tape, h.output, Nat.le_trans h.size (by simp), fun i hi hne => (Below.heap_alloc w o i (Nat.lt_of_lt_of_le hi h.size)).trans (h.block i hi hne)⟩
theorem one_setCell {a w : World} {g : Nat} (h : a.grownBy w (some g)) {p : Addr} (hp : p.block = g ∨ a.heap.size ≤ p.block) (u : Value) : a.grownBy (w.setCell p u) (some g) :=
  ⟨h.os, h.tape, h.output, by simpa [World.setCell] using h.size, fun i hi hne => (Below.heap_setCell w p u i (by
    rintro rfl
    rcases hp with hp | hp
    · exact hne (by rw [hp])
    · omega)).trans (h.block i hi hne)⟩
theorem one_of_below {a w : World} {B : Nat} (h : Below B a w) (hB : a.heap.size ≤ B) (row : Option Nat) : a.grownBy w row :=
  ⟨h.os, h.tape, h.output, h.size, fun i hi _ => h.block i (Nat.lt_of_lt_of_le hi hB)⟩
theorem one_below {a w : World} {g B : Nat} (h : a.grownBy w (some g)) (hB : B ≤ g) (hs : B ≤ a.heap.size) : Below B a w :=
  ⟨h.os, h.tape, h.output, h.size, fun i hi => h.block i (Nat.lt_of_lt_of_le hi hs) (fun e => by injection e with e; omega)⟩
theorem cell_one {w w' : World} {g : Nat} (h : w.grownBy w' (some g)) {a : Addr} {v : Value} (hc : w.cell? a = some v) (hne : a.block ≠ g) : w'.cell? a = some v :=
  h.cell hc (fun e => hne (by injection e))
theorem below_drewN {B : Nat} {a w : World} (h : Below B a w) (n : Nat) : Below B a (w.drewN n) := ⟨h.os, h.tape, h.output, h.size, h.block⟩
theorem lt_of_cell {w : World} {a : Addr} {v : Value} (h : w.cell? a = some v) : a.block < w.heap.size := by
  rcases Nat.lt_or_ge a.block w.heap.size with h' | h'
  · exact h'
  · simp [World.cell?, Array.getElem?_eq_none h'] at h

theorem addr_add (b off j : Nat) : (⟨b, off, none⟩ : Addr).add j = ⟨b, off + j, none⟩ := by
  unfold Addr.add
  split
  · rename_i h; subst h; rfl
  · rfl
/-- The numbers zs lie one after the other from the address a on (nothing is said of a where there are none). -/
def RowInt (k : IntKind) (w : World) (a : Option Addr) (zs : List Int) : Prop :=
  0 < zs.length → ∃ b off, a = some ⟨b, off, none⟩ ∧ ∀ i, i < zs.length → w.cell? ⟨b, off + i, none⟩ = some (.int k (zs.getD i 0))
theorem RowInt.below {k : IntKind} {w w' : World} {a : Option Addr} {zs : List Int} {B : Nat} (h : RowInt k w a zs) (hb : Below B w w') (hB : w.heap.size ≤ B) : RowInt k w' a zs := fun h0 => by
  obtain ⟨b, off, h1, h2⟩ := h h0
  exact ⟨b, off, h1, fun i hi => (hb.cell (p := ⟨b, off + i, none⟩) (Nat.lt_of_lt_of_le (lt_of_cell (h2 i hi)) hB)).trans (h2 i hi)⟩
theorem RowInt.grown {k : IntKind} {w w' : World} {a : Option Addr} {zs : List Int} {row : Option Nat} (h : RowInt k w a zs) (hg : w.grownBy w' row) (hn : ∀ x, a = some x → some x.block ≠ row) : RowInt k w' a zs := fun h0 => by
  obtain ⟨b, off, h1, h2⟩ := h h0
  exact ⟨b, off, h1, fun i hi => hg.cell (h2 i hi) (hn ⟨b, off, none⟩ h1)⟩
theorem RowInt.of_row {k : IntKind} {w : World} {g : Nat} {t : TypeId} {n : Nat} {f : Nat → Value} {zs : List Int} (h : w.rowIs g t n f) (hn : zs.length ≤ n) (hf : ∀ i, i < zs.length → f i = .int k (zs.getD i 0)) : RowInt k w (some ⟨g, 0, none⟩) zs :=
  fun _ => ⟨g, 0, rfl, fun i hi => by rw [Nat.zero_add, h.cell (by omega), hf i hi]⟩
/-- A slice value of something that came in: a nil one has nothing. -/
def Fresh (B : Nat) (w : World) (a : Option Addr) : Prop := ∀ x, a = some x → B ≤ x.block ∧ x.block < w.heap.size

/-- What a copy by hand gives: the same numbers in new memory; nothing that was there is written. -/
def Copied (k : IntKind) (w : World) (zs : List Int) (e : Ending) (w' : World) : Prop :=
  ∃ a' c', e = .returned (.slice a' zs.length c') ∧ (a' = none → zs.length = 0) ∧ Fresh w.heap.size w' a' ∧ RowInt k w' a' zs ∧ Below w.heap.size w w'

def blkOf (ao : Option Addr) : Option Nat := ao.map (·.block)
theorem ownBlock_slice (ao : Option Addr) (n cap : Nat) : (Value.slice ao n cap).ownBlock = blkOf ao := by cases ao <;> rfl
theorem owns_base {w : World} {B B' : Nat} {e : TypeId} {size : Nat} {v : Value} {n : Nat} {xs : List Value} (h : w.ownsRow B e size v n xs) (hB : B' ≤ B) : w.ownsRow B' e size v n xs := by
  refine ⟨h.1, ?_⟩
  rcases h.2 with h2 | ⟨g, c, cur, h1, hb, r⟩
  · exact .inl h2
  · exact .inr ⟨g, c, cur, h1, Nat.le_trans hB hb, r⟩

/-- 'out = append(out, x..)' on a row of the call's own, with what is known of where the new row lies: where it lay, or in a new block. -/
theorem wpList_push {P : Program} (w : World) {ops : Array Oper} {rest : List Oper} {o : Oper} {a : Act} {Q : Exit → Act → World → Prop}
    (hg : o.guard = none) (s x : Operand) (t : TypeId) (hop : o.op = Op.call { callee := Callee.builtin Builtin.append, args := #[s, x], argTypes := #[t, t] })
    (B : Nat) (e : TypeId) (i : TypeInfo) (z : Value) (size bytes : Nat) (h1 : P.underlying t = some (.slice e)) (h2 : P.info? e = some i) (h3 : i.zero = some z) (h4 : i.size = size) (h5 : i.bytes = bytes) (h6 : z.cells.size = size) (h7 : 0 < size)
    (ao : Option Addr) (n cap : Nat) (xs : List Value) (hs : a.eval s = .slice ao n cap) (hown : w.ownsRow B e size (.slice ao n cap) n xs)
    (ad : Addr) (m c : Nat) (news : List Value) (hx : a.eval x = .slice (some ad) m c) (hn : news.length = m * size) (hc : ∀ j u, news[j]? = some u → w.cell? (ad.add j) = some u) (h1c : ∀ u ∈ news, u.oneCell' = true)
    (hm : 0 < m) (b1 : n + m ≤ maxLen) (b2 : (n + m) * bytes ≤ 140737488355328) (hB : B ≤ w.heap.size)
    (hK : ∀ g' cap' w', w'.ownsRow B e size (.slice (some ⟨g', 0, none⟩) (n + m) cap') (n + m) (xs ++ news) → w.grownBy w' (blkOf ao) → (blkOf ao = some g' ∨ w.heap.size ≤ g') →
      wpList P ops Q rest (a.put o.dst (.slice (some ⟨g', 0, none⟩) (n + m) cap')) w') :
    wpList P ops Q (o :: rest) a w := by
  by_cases hfit : n + m ≤ cap
  · obtain ⟨g, rfl⟩ : ∃ g, ao = some ⟨g, 0, none⟩ := by
      rcases hown.2 with ⟨h, _⟩ | ⟨g, c', cur, h, _⟩
      · simp only [Value.slice.injEq] at h; omega
      · simp only [Value.slice.injEq] at h; exact ⟨g, h.1⟩
    refine wpList_append_fits w hg s x t hop B e i size h1 h2 h4 g n cap xs hs hown ad m c news hx hn hc h1c hfit fun w' r1 r2 => ?_
    exact hK g cap w' r1 r2 (.inl rfl)
  · refine wpList_append_grows w hg s x t hop e i z size bytes h1 h2 h3 h4 h5 h6 h7 ao n cap xs hs ?_ hown.1 ?_ ad m c news hx hn hc h1c (by omega) b1 b2 fun v' w' r1 r2 => ?_
    · intro e0
      rcases hown.2 with ⟨h, _⟩ | ⟨g, c', cur, h, _⟩
      · simp only [Value.slice.injEq] at h; exact ⟨h.2.1, h.2.2⟩
      · simp only [Value.slice.injEq, e0] at h; exact absurd h.1 (by simp)
    · intro b hb j u hj
      subst hb
      rcases hown.2 with ⟨h, _⟩ | ⟨g, c', cur, h, _⟩
      · simp at h
      · simp only [Value.slice.injEq, Option.some.injEq] at h
        obtain ⟨hb, -, -⟩ := h
        subst hb
        rw [addr_add, Nat.zero_add, hown.cellAt j (by rw [← hown.1]; exact (List.getElem?_eq_some_iff.1 hj).1)]
        exact hj
    · rcases r1.2 with ⟨h, h0⟩ | ⟨g, c', cur, h, hb, _⟩
      · omega
      · subst h
        exact hK g c' w' (owns_base r1 hB) ⟨r2.os, r2.tape, r2.output, r2.size, fun k hk _ => r2.block k hk (by simp)⟩ (.inr hb)



/-- What a method may have turned: the block m, the row that was owned, new blocks. -/
structure Moved (w w' : World) (m : Nat) (ao ao' : Option Addr) : Prop where
  os : w'.os = w.os
  tape : w'.tape = w.tape
  output : w'.output = w.output
  size : w.heap.size ≤ w'.heap.size
  block : ∀ k, k < w.heap.size → k ≠ m → some k ≠ blkOf ao → w'.heap[k]? = w.heap[k]?
  row : blkOf ao' = blkOf ao ∨ ∀ g, blkOf ao' = some g → w.heap.size ≤ g

theorem Moved.refl (w : World) (m : Nat) (ao : Option Addr) : Moved w w m ao ao := ⟨rfl, rfl, rfl, Nat.le_refl _, fun _ _ _ _ => rfl, .inl rfl⟩
theorem Moved.trans {a b c : World} {m : Nat} {x y z : Option Addr} (h : Moved a b m x y) (k : Moved b c m y z) : Moved a c m x z := by
  refine ⟨k.os.trans h.os, k.tape.trans h.tape, k.output.trans h.output, Nat.le_trans h.size k.size, fun i hi hm hx => ?_, ?_⟩
  · refine (k.block i (Nat.lt_of_lt_of_le hi h.size) hm (fun e => ?_)).trans (h.block i hi hm hx)
    rcases h.row with hr | hr
    · exact hx (e.trans hr)
    · have := hr i e.symm; omega
  · rcases k.row with kr | kr
    · rcases h.row with hr | hr
      · exact .inl (kr.trans hr)
      · exact .inr fun g hg => hr g (kr ▸ hg)
    · exact .inr fun g hg => Nat.le_trans h.size (kr g hg)
theorem Moved.below {a b : World} {m : Nat} {x y : Option Addr} (h : Moved a b m x y) {B : Nat} (hm : B ≤ m) (hx : ∀ g, blkOf x = some g → B ≤ g) (hB : B ≤ a.heap.size) : Below B a b :=
  ⟨h.os, h.tape, h.output, h.size, fun i hi => h.block i (by omega) (by omega) (fun e => by have := hx i e.symm; omega)⟩
theorem Moved.rowB {a b : World} {m : Nat} {x y : Option Addr} (h : Moved a b m x y) {B : Nat} (hx : ∀ g, blkOf x = some g → B ≤ g) (hB : B ≤ a.heap.size) : ∀ g, blkOf y = some g → B ≤ g := by
  intro g hg
  rcases h.row with hr | hr
  · exact hx g (hr ▸ hg)
  · exact Nat.le_trans hB (hr g hg)




/-- The position that a scanner over n bytes shows behind c bytes. -/
def posOf (n c : Nat) : Int := if c = 0 then 0 else if c ≤ n then (c : Int) - 1 else -1
/-- The byte at place c, or -1 past the end. -/
def chr (zs : List Int) (c : Nat) : Int := if c < zs.length then zs.getD c 0 else -1
/-- What NextPos answers. -/
def nposOf (n c : Nat) : Int := if c < n ∧ ¬ (c = 0 ∧ n = 1) then (c : Int) else -1

/-- A scanner at block b over the bytes zs, c of them handed out, the saved state at s. -/
structure Scan (w : World) (b : Nat) (ao : Option Addr) (cap : Nat) (zs : List Int) (c s : Nat) : Prop where
  blk : w.heap[b]? = some (.cells #[.slice ao zs.length cap, .int .i64 (posOf zs.length c), .bool (decide (0 < c)), .int .i64 (posOf zs.length s), .bool (decide (0 < s))] 118 (0, 0))
  src : 0 < zs.length → ∃ sb so, ao = some ⟨sb, so, none⟩ ∧ sb ≠ b ∧ ∀ i, i < zs.length → w.cell? ⟨sb, so + i, none⟩ = some (.int .u8 (zs.getD i 0))
  cb : c ≤ zs.length + 1
  sb : s ≤ zs.length + 1
  len : zs.length ≤ 140737488355328
  byte : ∀ z, z ∈ zs → 0 ≤ z ∧ z ≤ 255

theorem getD_byte {zs : List Int} (h : ∀ z, z ∈ zs → 0 ≤ z ∧ z ≤ 255) (i : Nat) : 0 ≤ zs.getD i 0 ∧ zs.getD i 0 ≤ 255 := by
  rcases Nat.lt_or_ge i zs.length with hi | hi
  · rw [List.getD_eq_getElem?_getD, List.getElem?_eq_getElem hi]; exact h _ (List.getElem_mem hi)
  · rw [List.getD_eq_getElem?_getD, List.getElem?_eq_none hi]; simp

/-- What a step does: the scanner's block alone is written. -/
theorem Scan.step {w w' : World} {b : Nat} {ao : Option Addr} {cap : Nat} {zs : List Int} {c s c' s' : Nat} (h : Scan w b ao cap zs c s) (hg : w.grownBy w' (some b)) (hc : c' ≤ zs.length + 1) (hs : s' ≤ zs.length + 1)
    (hb : w'.heap[b]? = some (.cells #[.slice ao zs.length cap, .int .i64 (posOf zs.length c'), .bool (decide (0 < c')), .int .i64 (posOf zs.length s'), .bool (decide (0 < s'))] 118 (0, 0))) : Scan w' b ao cap zs c' s' := by
  refine ⟨hb, fun h0 => ?_, hc, hs, h.len, h.byte⟩
  obtain ⟨x, y, h1, h2, h3⟩ := h.src h0
  exact ⟨x, y, h1, h2, fun i hi => cell_one hg (h3 i hi) h2⟩

theorem Scan.step' {w w' : World} {b : Nat} {ao : Option Addr} {cap : Nat} {zs : List Int} {c s c' : Nat} (h : Scan w b ao cap zs c s) (hg : w.grownBy w' (some b)) (hc : c' ≤ zs.length + 1) {P' : Int} {st' : Bool} (hP : posOf zs.length c' = P') (hst : decide (0 < c') = st')
    (hb : w'.heap[b]? = some (.cells #[.slice ao zs.length cap, .int .i64 P', .bool st', .int .i64 (posOf zs.length s), .bool (decide (0 < s))] 118 (0, 0))) : Scan w' b ao cap zs c' s := by
  subst hP hst; exact h.step hg hc h.sb hb

/-- What is written elsewhere leaves it as it is. -/
theorem Scan.kept {w w' : World} {b : Nat} {ao : Option Addr} {cap : Nat} {zs : List Int} {c s : Nat} {row : Option Nat} (h : Scan w b ao cap zs c s) (hg : w.grownBy w' row) (hb : some b ≠ row) (hs : ∀ x, ao = some x → some x.block ≠ row) : Scan w' b ao cap zs c s := by
  refine ⟨blk_grown h.blk hg hb, fun h0 => ?_, h.cb, h.sb, h.len, h.byte⟩
  obtain ⟨x, y, h1, h2, h3⟩ := h.src h0
  exact ⟨x, y, h1, h2, fun i hi => hg.cell (h3 i hi) (hs ⟨x, y, none⟩ h1)⟩

section
variable {w : World} {b : Nat} {ao : Option Addr} {cap : Nat} {zs : List Int} {c s : Nat}

/-- NextPos over the raw cells, each test decided ahead. -/
theorem npos_raw {n : Nat} {P R : Int} {st x y : Bool} (g0 : w.cell? ⟨b, 0, none⟩ = some (.slice ao n cap)) (g1 : w.cell? ⟨b, 1, none⟩ = some (.int .i64 P)) (g2 : w.cell? ⟨b, 2, none⟩ = some (.bool st))
    (hn : n ≤ 140737488355328) (hP : -1 ≤ P) (hP' : P ≤ n) (hx : (P == -1) = x) (hy : decide ((n : Int) - 1 ≤ P) = y) (hR : R = if x || y then -1 else if st then P + 1 else 0) :
    Calls Tryf.prog 31 #[.pointer (some ⟨b, 0, none⟩)] w fun e w' => e = .returned (.int .i64 R) ∧ ∃ n, w' = w.drewN n := by
  subst hR
  cases x
  all_goals
    cases y
    all_goals
      cases st
      all_goals
        go_enter Tryf.func31, Tryf.ntmps31
        go_wp2
        go_quiet (fail)
        go_wp2
        go_ret
        exact ⟨rfl, _, rfl⟩

theorem npos_any (h : Scan w b ao cap zs c s) :
    Calls Tryf.prog 31 #[.pointer (some ⟨b, 0, none⟩)] w fun e w' => e = .returned (.int .i64 (nposOf zs.length c)) ∧ ∃ n, w' = w.drewN n := by
  obtain ⟨hblk, hsrc, hcb, hsb, hlen, hbyte⟩ := h
  refine npos_raw (P := posOf zs.length c) (blk_cell hblk 0 _ rfl) (blk_cell hblk 1 _ rfl) (blk_cell hblk 2 _ rfl) hlen (by unfold posOf; split <;> (try split) <;> omega) (by unfold posOf; split <;> (try split) <;> omega) rfl rfl ?_
  rcases (show (c = 0 ∧ zs.length ≤ 1) ∨ (c = 0 ∧ 1 < zs.length) ∨ (0 < c ∧ c < zs.length) ∨ (0 < c ∧ c = zs.length) ∨ c = zs.length + 1 by omega) with ⟨h1, h2⟩ | ⟨h1, h2⟩ | ⟨h1, h2⟩ | ⟨h1, h2⟩ | h2
  · have e1 : nposOf zs.length c = -1 := by unfold nposOf; rw [if_neg (by omega)]
    have e2 : posOf zs.length c = 0 := by unfold posOf; rw [if_pos h1]
    rw [e1, e2, if_pos (by simp; omega)]
  · have e1 : nposOf zs.length c = 0 := by unfold nposOf; rw [if_pos (by omega)]; omega
    have e2 : posOf zs.length c = 0 := by unfold posOf; rw [if_pos h1]
    rw [e1, e2, if_neg (by simp; omega), if_neg (by simp; omega)]
  · have e1 : nposOf zs.length c = c := by unfold nposOf; rw [if_pos (by omega)]
    have e2 : posOf zs.length c = c - 1 := by unfold posOf; rw [if_neg (by omega), if_pos (by omega)]
    rw [e1, e2, if_neg (by simp; omega), if_pos (by simp; omega)]; omega
  · have e1 : nposOf zs.length c = -1 := by unfold nposOf; rw [if_neg (by omega)]
    have e2 : posOf zs.length c = c - 1 := by unfold posOf; rw [if_neg (by omega), if_pos (by omega)]
    rw [e1, e2, if_pos (by simp; omega)]
  · have e1 : nposOf zs.length c = -1 := by unfold nposOf; rw [if_neg (by omega)]
    have e2 : posOf zs.length c = -1 := by unfold posOf; rw [if_neg (by omega), if_neg (by omega)]
    rw [e1, e2, if_pos (by simp)]

/-- Next over the raw cells. One theorem a way. -/
theorem next_fresh0 {cap : Nat} (g0 : w.cell? ⟨b, 0, none⟩ = some (.slice ao 0 cap)) (g1 : w.cell? ⟨b, 1, none⟩ = some (.int .i64 0)) (g2 : w.cell? ⟨b, 2, none⟩ = some (.bool false)) (f1 : w.frozen? ⟨b, 1, none⟩ = false) (f2 : w.frozen? ⟨b, 2, none⟩ = false) :
    Calls Tryf.prog 25 #[.pointer (some ⟨b, 0, none⟩)] w fun e w' => e = .returned (.int .i64 (-1)) ∧ (w.setCell ⟨b, 2, none⟩ (.bool true)).setCell ⟨b, 1, none⟩ (.int .i64 (-1)) = w' := by
  go_enter Tryf.func25, Tryf.ntmps25
  go_wp2_with fail
  go_ret
  exact ⟨rfl, rfl⟩

theorem next_fresh {n cap sb so : Nat} {z : Int} (hn : 0 < n) (hz : 0 ≤ z ∧ z ≤ 255) (g0 : w.cell? ⟨b, 0, none⟩ = some (.slice (some ⟨sb, so, none⟩) n cap)) (g1 : w.cell? ⟨b, 1, none⟩ = some (.int .i64 0)) (g2 : w.cell? ⟨b, 2, none⟩ = some (.bool false)) (f1 : w.frozen? ⟨b, 1, none⟩ = false) (f2 : w.frozen? ⟨b, 2, none⟩ = false)
    (hne : sb ≠ b) (hc : w.cell? ⟨sb, so, none⟩ = some (.int .u8 z)) :
    Calls Tryf.prog 25 #[.pointer (some ⟨b, 0, none⟩)] w fun e w' => e = .returned (.int .i64 z) ∧ ∃ k, w' = (w.setCell ⟨b, 2, none⟩ (.bool true)).drewN k := by
  have hn' : ((n : Int) == 0) = false := by simp; omega
  have hz1 := hz.1
  have hz2 := hz.2
  clear hz
  go_enter Tryf.func25, Tryf.ntmps25
  go_wp2_with fail
  go_quiet (fail)
  go_wp2
  go_ret
  exact ⟨rfl, _, rfl⟩

theorem next_on {n cap sb so c : Nat} {P z : Int} (hlt : c < n) (hnb : n ≤ 140737488355328) (hz : 0 ≤ z ∧ z ≤ 255) (g0 : w.cell? ⟨b, 0, none⟩ = some (.slice (some ⟨sb, so, none⟩) n cap)) (g1 : w.cell? ⟨b, 1, none⟩ = some (.int .i64 P)) (g2 : w.cell? ⟨b, 2, none⟩ = some (.bool true)) (f1 : w.frozen? ⟨b, 1, none⟩ = false)
    (hne : sb ≠ b) (hc : w.cell? ⟨sb, so + c, none⟩ = some (.int .u8 z)) (hN : Calls Tryf.prog 31 #[.pointer (some ⟨b, 0, none⟩)] w fun e w' => e = .returned (.int .i64 (c : Int)) ∧ ∃ n, w' = w.drewN n) :
    Calls Tryf.prog 25 #[.pointer (some ⟨b, 0, none⟩)] w fun e w' => e = .returned (.int .i64 z) ∧ ∃ j k, w' = ((w.drewN j).setCell ⟨b, 1, none⟩ (.int .i64 (c : Int))).drewN k := by
  have hz1 := hz.1
  have hz2 := hz.2
  have hm : ((c : Int) == -1) = false := by simp
  clear hz
  go_enter Tryf.func25, Tryf.ntmps25
  go_wp2_with (go_at_call 31; refine hN.mono ?_; rintro e w' ⟨rfl, k, rfl⟩)
  go_quiet (fail)
  go_wp2
  go_ret
  exact ⟨rfl, _, _, rfl⟩

theorem next_end {n cap : Nat} {P : Int} (g0 : w.cell? ⟨b, 0, none⟩ = some (.slice ao n cap)) (g1 : w.cell? ⟨b, 1, none⟩ = some (.int .i64 P)) (g2 : w.cell? ⟨b, 2, none⟩ = some (.bool true)) (f1 : w.frozen? ⟨b, 1, none⟩ = false)
    (hN : Calls Tryf.prog 31 #[.pointer (some ⟨b, 0, none⟩)] w fun e w' => e = .returned (.int .i64 (-1)) ∧ ∃ n, w' = w.drewN n) :
    Calls Tryf.prog 25 #[.pointer (some ⟨b, 0, none⟩)] w fun e w' => e = .returned (.int .i64 (-1)) ∧ ∃ j, w' = (w.drewN j).setCell ⟨b, 1, none⟩ (.int .i64 (-1)) := by
  go_enter Tryf.func25, Tryf.ntmps25
  go_wp2_with (go_at_call 31; refine hN.mono ?_; rintro e w' ⟨rfl, k, rfl⟩)
  go_ret
  exact ⟨rfl, _, rfl⟩

theorem next_any (h : Scan w b ao cap zs c s) :
    Calls Tryf.prog 25 #[.pointer (some ⟨b, 0, none⟩)] w fun e w' => e = .returned (.int .i64 (chr zs c)) ∧ Scan w' b ao cap zs (min (c + 1) (zs.length + 1)) s ∧ w.grownBy w' (some b) := by
  have hN := npos_any h
  have h' := h
  obtain ⟨hblk, hsrc, hcb, hsb, hlen, hbyte⟩ := h
  have g0 : w.cell? ⟨b, 0, none⟩ = some (.slice ao zs.length cap) := blk_cell hblk 0 _ rfl
  have g1 : w.cell? ⟨b, 1, none⟩ = some (.int .i64 (posOf zs.length c)) := blk_cell hblk 1 _ rfl
  have g2 : w.cell? ⟨b, 2, none⟩ = some (.bool (decide (0 < c))) := blk_cell hblk 2 _ rfl
  have f1 := blk_free hblk 1
  have f2 := blk_free hblk 2
  rcases (show (c = 0 ∧ zs.length = 0) ∨ (c = 0 ∧ 0 < zs.length) ∨ (0 < c ∧ c < zs.length) ∨ (0 < c ∧ c = zs.length) ∨ c = zs.length + 1 by omega) with ⟨h1, h2⟩ | ⟨h1, h2⟩ | ⟨h1, h2⟩ | ⟨h1, h2⟩ | h2
  · subst h1
    rw [h2] at g0
    refine (next_fresh0 g0 g1 g2 f1 f2).mono ?_
    rintro e w' ⟨rfl, rfl⟩
    have hg := one_setCell (one_setCell (one_refl w (some b)) (p := ⟨b, 2, none⟩) (.inl rfl) (.bool true)) (p := ⟨b, 1, none⟩) (.inl rfl) (.int .i64 (-1))
    exact ⟨ret_int (by unfold chr; rw [if_neg (by omega)]), h'.step' hg (by omega) (P' := -1) (by unfold posOf; rw [if_neg (by omega), if_neg (by omega)]) (by simp) (blk_set (blk_set hblk 2 _) 1 _), hg⟩
  · subst h1
    obtain ⟨sb, so, rfl, hne, hcell⟩ := hsrc h2
    refine (next_fresh h2 (getD_byte hbyte 0) g0 g1 g2 f1 f2 hne (hcell 0 h2)).mono ?_
    rintro e w' ⟨rfl, k, rfl⟩
    have hg := one_drewN (one_setCell (one_refl w (some b)) (p := ⟨b, 2, none⟩) (.inl rfl) (.bool true)) k
    exact ⟨ret_int (by unfold chr; rw [if_pos h2]), h'.step' hg (by omega) (P' := 0) (by unfold posOf; rw [if_neg (by omega), if_pos (by omega)]; omega) (by simp) (blk_drewN (blk_set hblk 2 _) k), hg⟩
  · obtain ⟨sb, so, rfl, hne, hcell⟩ := hsrc (by omega)
    have e1 : nposOf zs.length c = c := by unfold nposOf; rw [if_pos (by omega)]
    rw [e1] at hN
    have e2 : decide (0 < c) = true := by simp; omega
    rw [e2] at g2 hblk
    refine (next_on h2 hlen (getD_byte hbyte c) g0 g1 g2 f1 hne (hcell c h2) hN).mono ?_
    rintro e w' ⟨rfl, j, k, rfl⟩
    have hg := one_drewN (one_setCell (one_drewN (one_refl w (some b)) j) (p := ⟨b, 1, none⟩) (.inl rfl) (.int .i64 (c : Int))) k
    exact ⟨ret_int (by unfold chr; rw [if_pos h2]), h'.step' hg (by omega) (P' := c) (by unfold posOf; rw [if_neg (by omega), if_pos (by omega)]; omega) (by simp) (blk_drewN (blk_set (blk_drewN hblk j) 1 _) k), hg⟩
  all_goals
    have e1 : nposOf zs.length c = -1 := by unfold nposOf; rw [if_neg (by omega)]
    rw [e1] at hN
    have e2 : decide (0 < c) = true := by simp; omega
    rw [e2] at g2 hblk
    refine (next_end g0 g1 g2 f1 hN).mono ?_
    rintro e w' ⟨rfl, k, rfl⟩
    have hg := one_setCell (one_drewN (one_refl w (some b)) k) (p := ⟨b, 1, none⟩) (.inl rfl) (.int .i64 (-1))
    exact ⟨ret_int (by unfold chr; rw [if_neg (by omega)]), h'.step' hg (by omega) (P' := -1) (by unfold posOf; rw [if_neg (by omega), if_neg (by omega)]) (by simp) (blk_set (blk_drewN hblk k) 1 _), hg⟩

/-- Where Peek leaves the cursor: where it was, but over an empty source. -/
def peekC (n c : Nat) : Nat := if n = 0 ∧ c = 0 then 1 else c

theorem posOf_peek {n c : Nat} (h1 : c ≤ n) (h2 : n ≤ c) : posOf n (peekC n c) = (n : Int) - 1 := by
  unfold peekC
  split
  · rename_i h
    unfold posOf
    rw [if_neg (by omega), if_neg (by omega)]; omega
  · rename_i h
    unfold posOf
    rw [if_neg (by omega), if_pos (by omega)]; omega

theorem next_told (h : Scan w b ao cap zs c s) {P1 : Int} (hp : posOf zs.length (min (c + 1) (zs.length + 1)) = P1) :
    Calls Tryf.prog 25 #[.pointer (some ⟨b, 0, none⟩)] w fun e w1 => e = .returned (.int .i64 (chr zs c)) ∧ Hid (Scan w1 b ao cap zs (min (c + 1) (zs.length + 1)) s ∧ w.grownBy w1 (some b)) ∧
      w1.cell? ⟨b, 0, none⟩ = some (.slice ao zs.length cap) ∧ w1.cell? ⟨b, 1, none⟩ = some (.int .i64 P1) ∧ w1.cell? ⟨b, 2, none⟩ = some (.bool true) ∧ w1.frozen? ⟨b, 1, none⟩ = false ∧ w1.frozen? ⟨b, 2, none⟩ = false := by
  subst hp
  exact (next_any h).mono fun e w1 ⟨h1, h2, h3⟩ => ⟨h1, ⟨h2, h3⟩, blk_cell h2.blk 0 _ rfl, blk_cell h2.blk 1 _ rfl, (blk_cell h2.blk 2 _ rfl).trans (congrArg (fun x => some (Value.bool x)) (by simp)), blk_free h2.blk 1, blk_free h2.blk 2⟩

section
variable {V : Int} {R : World → Prop} {n : Nat}
theorem peek_w1 (hN : Calls Tryf.prog 25 #[.pointer (some ⟨b, 0, none⟩)] w fun e w1 => e = .returned (.int .i64 V) ∧ Hid (R w1) ∧ w1.cell? ⟨b, 0, none⟩ = some (.slice ao n cap) ∧ w1.cell? ⟨b, 1, none⟩ = some (.int .i64 (-1)) ∧ w1.cell? ⟨b, 2, none⟩ = some (.bool true) ∧ w1.frozen? ⟨b, 1, none⟩ = false ∧ w1.frozen? ⟨b, 2, none⟩ = false) (p1 : w.cell? ⟨b, 1, none⟩ = some (.int .i64 (-1))) :
    Calls Tryf.prog 24 #[.pointer (some ⟨b, 0, none⟩)] w fun e w' => e = .returned (.int .i64 V) ∧ Hid (R w') := by
  go_enter Tryf.func24, Tryf.ntmps24
  go_wp2_with (go_at_call 25; refine hN.mono ?_; rintro e w1 ⟨rfl, hs1, k0, k1, k2, f1, f2⟩)
  go_ret
  exact ⟨rfl, hs1⟩
theorem peek_w2 {P0 : Int} (hn : n ≤ 140737488355328) (hN : Calls Tryf.prog 25 #[.pointer (some ⟨b, 0, none⟩)] w fun e w1 => e = .returned (.int .i64 V) ∧ Hid (R w1) ∧ w1.cell? ⟨b, 0, none⟩ = some (.slice ao n cap) ∧ w1.cell? ⟨b, 1, none⟩ = some (.int .i64 (-1)) ∧ w1.cell? ⟨b, 2, none⟩ = some (.bool true) ∧ w1.frozen? ⟨b, 1, none⟩ = false ∧ w1.frozen? ⟨b, 2, none⟩ = false) (p1 : w.cell? ⟨b, 1, none⟩ = some (.int .i64 P0)) (hP : (P0 == -1) = false) :
    Calls Tryf.prog 24 #[.pointer (some ⟨b, 0, none⟩)] w fun e w' => e = .returned (.int .i64 V) ∧ ∃ w1, Hid (R w1) ∧ w1.setCell ⟨b, 1, none⟩ (.int .i64 ((n : Int) - 1)) = w' := by
  go_enter Tryf.func24, Tryf.ntmps24
  go_wp2_with (go_at_call 25; refine hN.mono ?_; rintro e w1 ⟨rfl, hs1, k0, k1, k2, f1, f2⟩)
  go_ret
  exact ⟨rfl, _, hs1, rfl⟩
theorem peek_w3 {P0 P1 : Int} (hb1 : 1 ≤ P1) (hb2 : P1 ≤ 140737488355328) (hN : Calls Tryf.prog 25 #[.pointer (some ⟨b, 0, none⟩)] w fun e w1 => e = .returned (.int .i64 V) ∧ Hid (R w1) ∧ w1.cell? ⟨b, 0, none⟩ = some (.slice ao n cap) ∧ w1.cell? ⟨b, 1, none⟩ = some (.int .i64 P1) ∧ w1.cell? ⟨b, 2, none⟩ = some (.bool true) ∧ w1.frozen? ⟨b, 1, none⟩ = false ∧ w1.frozen? ⟨b, 2, none⟩ = false) (p1 : w.cell? ⟨b, 1, none⟩ = some (.int .i64 P0)) (hP : (P0 == -1) = false) (hP1 : (P1 == -1) = false) :
    Calls Tryf.prog 24 #[.pointer (some ⟨b, 0, none⟩)] w fun e w' => e = .returned (.int .i64 V) ∧ ∃ w1, Hid (R w1) ∧ w1.setCell ⟨b, 1, none⟩ (.int .i64 (P1 - 1)) = w' := by
  go_enter Tryf.func24, Tryf.ntmps24
  go_wp2_with (go_at_call 25; refine hN.mono ?_; rintro e w1 ⟨rfl, hs1, k0, k1, k2, f1, f2⟩)
  go_ret
  exact ⟨rfl, _, hs1, rfl⟩
theorem peek_w4 {P0 : Int} (hN : Calls Tryf.prog 25 #[.pointer (some ⟨b, 0, none⟩)] w fun e w1 => e = .returned (.int .i64 V) ∧ Hid (R w1) ∧ w1.cell? ⟨b, 0, none⟩ = some (.slice ao n cap) ∧ w1.cell? ⟨b, 1, none⟩ = some (.int .i64 0) ∧ w1.cell? ⟨b, 2, none⟩ = some (.bool true) ∧ w1.frozen? ⟨b, 1, none⟩ = false ∧ w1.frozen? ⟨b, 2, none⟩ = false) (p1 : w.cell? ⟨b, 1, none⟩ = some (.int .i64 P0)) (hP : (P0 == -1) = false) :
    Calls Tryf.prog 24 #[.pointer (some ⟨b, 0, none⟩)] w fun e w' => e = .returned (.int .i64 V) ∧ ∃ w1, Hid (R w1) ∧ ((w1.setCell ⟨b, 1, none⟩ (.int .i64 (-1))).setCell ⟨b, 1, none⟩ (.int .i64 0)).setCell ⟨b, 2, none⟩ (.bool false) = w' := by
  go_enter Tryf.func24, Tryf.ntmps24
  go_wp2_with (go_at_call 25; refine hN.mono ?_; rintro e w1 ⟨rfl, hs1, k0, k1, k2, f1, f2⟩)
  go_ret
  exact ⟨rfl, _, hs1, rfl⟩
end

theorem peek_any (h : Scan w b ao cap zs c s) :
    Calls Tryf.prog 24 #[.pointer (some ⟨b, 0, none⟩)] w fun e w' => e = .returned (.int .i64 (chr zs c)) ∧ Scan w' b ao cap zs (peekC zs.length c) s ∧ w.grownBy w' (some b) := by
  have p1 : w.cell? ⟨b, 1, none⟩ = some (.int .i64 (posOf zs.length c)) := blk_cell h.blk 1 _ rfl
  have hcb := h.cb
  have hlen := h.len
  rcases (show (c ≤ zs.length ∧ zs.length ≤ c) ∨ (c = 0 ∧ 0 < zs.length) ∨ (0 < c ∧ c < zs.length) ∨ (0 < c ∧ c = zs.length + 1) by omega) with ⟨h1, h2⟩ | ⟨h1, h2⟩ | ⟨h1, h2⟩ | ⟨h1, h2⟩
  · have hN := next_told h (P1 := -1) (by unfold posOf; rw [if_neg (by omega), if_neg (by omega)])
    refine (peek_w2 hlen hN p1 (by unfold posOf; split <;> (try split) <;> simp <;> omega)).mono ?_
    rintro e w' ⟨rfl, w1, ⟨hs1, hg1⟩, rfl⟩
    have hg := one_setCell (one_refl w1 (some b)) (p := ⟨b, 1, none⟩) (.inl rfl) (.int .i64 ((zs.length : Int) - 1))
    have hc : 0 < peekC zs.length c := by unfold peekC; split <;> omega
    exact ⟨rfl, hs1.step' hg (by unfold peekC; split <;> omega) (P' := (zs.length : Int) - 1) (posOf_peek h1 h2) (by simp; omega) (blk_set hs1.blk 1 _), one_trans hg1 hg⟩
  · have hN := next_told h (P1 := 0) (by unfold posOf; rw [if_neg (by omega), if_pos (by omega)]; omega)
    refine (peek_w4 hN p1 (by unfold posOf; rw [if_pos h1]; rfl)).mono ?_
    rintro e w' ⟨rfl, w1, ⟨hs1, hg1⟩, rfl⟩
    have hg := one_setCell (one_setCell (one_setCell (one_refl w1 (some b)) (p := ⟨b, 1, none⟩) (.inl rfl) (.int .i64 (-1))) (p := ⟨b, 1, none⟩) (.inl rfl) (.int .i64 0)) (p := ⟨b, 2, none⟩) (.inl rfl) (.bool false)
    have e2 : peekC zs.length c = 0 := by unfold peekC; rw [if_neg (by omega)]; exact h1
    rw [e2]
    exact ⟨rfl, hs1.step' hg (by omega) (P' := 0) (by unfold posOf; rw [if_pos rfl]) (by simp) (blk_set (blk_set (blk_set hs1.blk 1 _) 1 _) 2 _), one_trans hg1 hg⟩
  · have hN := next_told h (P1 := c) (by unfold posOf; rw [if_neg (by omega), if_pos (by omega)]; omega)
    refine (peek_w3 (by omega) (by omega) hN p1 (by unfold posOf; rw [if_neg (by omega), if_pos (by omega)]; simp; omega) (by simp)).mono ?_
    rintro e w' ⟨rfl, w1, ⟨hs1, hg1⟩, rfl⟩
    have hg := one_setCell (one_refl w1 (some b)) (p := ⟨b, 1, none⟩) (.inl rfl) (.int .i64 ((c : Int) - 1))
    have e2 : peekC zs.length c = c := by unfold peekC; rw [if_neg (by omega)]
    rw [e2]
    exact ⟨rfl, hs1.step' hg (by omega) (P' := (c : Int) - 1) (by unfold posOf; rw [if_neg (by omega), if_pos (by omega)]) (by simp; omega) (blk_set hs1.blk 1 _), one_trans hg1 hg⟩
  · have hN := next_told h (P1 := -1) (by unfold posOf; rw [if_neg (by omega), if_neg (by omega)])
    have e1 : posOf zs.length c = -1 := by unfold posOf; rw [if_neg (by omega), if_neg (by omega)]
    rw [e1] at p1
    refine (peek_w1 hN p1).mono ?_
    rintro e w' ⟨rfl, ⟨hs1, hg1⟩⟩
    have e2 : peekC zs.length c = min (c + 1) (zs.length + 1) := by unfold peekC; rw [if_neg (by omega)]; omega
    rw [e2]
    exact ⟨rfl, hs1, hg1⟩
end

theorem newScan_any (ao : Option Addr) (n cap : Nat) (w : World) :
    Calls Tryf.prog 19 #[.slice ao n cap] w fun e w' => e = .returned (.pointer (some ⟨w.heap.size, 0, none⟩)) ∧ w.alloc (.cells #[.slice ao n cap, .int .i64 0, .bool false, .int .i64 0, .bool false] 118) = w' := by
  go_enter Tryf.func19, Tryf.ntmps19
  go_wp2
  go_ret
  exact ⟨rfl, rfl⟩

/-- A fresh scanner over bytes that lie in the world. -/
theorem Scan.new {w : World} {ao : Option Addr} {cap : Nat} {zs : List Int} (hs : 0 < zs.length → ∃ sb so, ao = some ⟨sb, so, none⟩ ∧ ∀ i, i < zs.length → w.cell? ⟨sb, so + i, none⟩ = some (.int .u8 (zs.getD i 0)))
    (hl : zs.length ≤ 140737488355328) (hb : ∀ z, z ∈ zs → 0 ≤ z ∧ z ≤ 255) :
    Scan (w.alloc (.cells #[.slice ao zs.length cap, .int .i64 0, .bool false, .int .i64 0, .bool false] 118)) w.heap.size ao cap zs 0 0 := by
  refine ⟨blk_new _ _, fun h0 => ?_, by omega, by omega, hl, hb⟩
  obtain ⟨sb, so, h1, h2⟩ := hs h0
  refine ⟨sb, so, h1, ?_, fun i hi => ?_⟩
  · have := lt_of_cell (h2 0 h0); simp at this; omega
  · have hlt := lt_of_cell (h2 i hi)
    exact (World.cell?_of_block (w := w) (Below.heap_alloc w _ _ hlt)).trans (h2 i hi)



section
variable {w : World} {b : Nat} {ao : Option Addr} {cap : Nat} {zs : List Int} {c s : Nat}

theorem cur_any (h : Scan w b ao cap zs c s) :
    Calls Tryf.prog 28 #[.pointer (some ⟨b, 0, none⟩)] w fun e w' => e = .returned (.int .i64 (posOf zs.length c)) ∧ w = w' := by
  have g1 : w.cell? ⟨b, 1, none⟩ = some (.int .i64 (posOf zs.length c)) := blk_cell h.blk 1 _ rfl
  clear h
  go_enter Tryf.func28, Tryf.ntmps28
  go_wp2
  go_ret
  exact ⟨rfl, rfl⟩

theorem len_any (h : Scan w b ao cap zs c s) :
    Calls Tryf.prog 32 #[.pointer (some ⟨b, 0, none⟩)] w fun e w' => e = .returned (.int .i64 (zs.length : Int)) ∧ w = w' := by
  have g0 : w.cell? ⟨b, 0, none⟩ = some (.slice ao zs.length cap) := blk_cell h.blk 0 _ rfl
  clear h
  go_enter Tryf.func32, Tryf.ntmps32
  go_wp2
  go_ret
  exact ⟨rfl, rfl⟩

theorem save_any (h : Scan w b ao cap zs c s) :
    Calls Tryf.prog 26 #[.pointer (some ⟨b, 0, none⟩)] w fun e w' => e = .returned (.tuple #[]) ∧ Scan w' b ao cap zs c c ∧ w.grownBy w' (some b) := by
  have g1 : w.cell? ⟨b, 1, none⟩ = some (.int .i64 (posOf zs.length c)) := blk_cell h.blk 1 _ rfl
  have g2 : w.cell? ⟨b, 2, none⟩ = some (.bool (decide (0 < c))) := blk_cell h.blk 2 _ rfl
  have g3 : w.cell? ⟨b, 3, none⟩ = some (.int .i64 (posOf zs.length s)) := blk_cell h.blk 3 _ rfl
  have g4 : w.cell? ⟨b, 4, none⟩ = some (.bool (decide (0 < s))) := blk_cell h.blk 4 _ rfl
  have f3 := blk_free h.blk 3
  have f4 := blk_free h.blk 4
  have H := Lib.hid h
  clear h
  generalize hP : posOf zs.length c = P at *
  generalize hS : decide (0 < c) = S at *
  generalize hP' : posOf zs.length s = P' at *
  generalize hS' : decide (0 < s) = S' at *
  have HP := Lib.hid hP
  have HS := Lib.hid hS
  clear hP hS hP' hS'
  go_enter Tryf.func26, Tryf.ntmps26
  go_wp2
  go_end0
  have hg := one_setCell (one_setCell (one_refl w (some b)) (p := ⟨b, 3, none⟩) (.inl rfl) (.int .i64 P)) (p := ⟨b, 4, none⟩) (.inl rfl) (.bool S)
  refine ⟨rfl, H.out.step hg H.out.cb H.out.cb ?_, hg⟩
  rw [HP.out, HS.out]
  exact (blk_set (blk_set H.out.blk 3 _) 4 _).trans (by rw [HP.out, HS.out]; rfl)

theorem restore_any (h : Scan w b ao cap zs c s) :
    Calls Tryf.prog 29 #[.pointer (some ⟨b, 0, none⟩)] w fun e w' => e = .returned (.tuple #[]) ∧ Scan w' b ao cap zs s s ∧ w.grownBy w' (some b) := by
  have g1 : w.cell? ⟨b, 1, none⟩ = some (.int .i64 (posOf zs.length c)) := blk_cell h.blk 1 _ rfl
  have g2 : w.cell? ⟨b, 2, none⟩ = some (.bool (decide (0 < c))) := blk_cell h.blk 2 _ rfl
  have g3 : w.cell? ⟨b, 3, none⟩ = some (.int .i64 (posOf zs.length s)) := blk_cell h.blk 3 _ rfl
  have g4 : w.cell? ⟨b, 4, none⟩ = some (.bool (decide (0 < s))) := blk_cell h.blk 4 _ rfl
  have f1 := blk_free h.blk 1
  have f2 := blk_free h.blk 2
  have H := Lib.hid h
  clear h
  generalize hP : posOf zs.length c = P at *
  generalize hS : decide (0 < c) = S at *
  generalize hP' : posOf zs.length s = P' at *
  generalize hS' : decide (0 < s) = S' at *
  have HP := Lib.hid hP'
  have HS := Lib.hid hS'
  clear hP hS hP' hS'
  go_enter Tryf.func29, Tryf.ntmps29
  go_wp2
  go_end0
  have hg := one_setCell (one_setCell (one_refl w (some b)) (p := ⟨b, 1, none⟩) (.inl rfl) (.int .i64 P')) (p := ⟨b, 2, none⟩) (.inl rfl) (.bool S')
  refine ⟨rfl, H.out.step hg H.out.sb H.out.sb ?_, hg⟩
  rw [HP.out, HS.out]
  exact (blk_set (blk_set H.out.blk 1 _) 2 _).trans (by rw [HP.out, HS.out]; rfl)
end



/-- The bytes of a string as numbers. -/
def bz (s : ByteArray) : List Int := s.data.toList.map fun b => (b.toNat : Int)
theorem bz_length (s : ByteArray) : (bz s).length = s.size := by simp [bz]
theorem bz_byte (s : ByteArray) : ∀ z, z ∈ bz s → 0 ≤ z ∧ z ≤ 255 := by
  intro z hz
  simp only [bz, List.mem_map] at hz
  obtain ⟨b, _, rfl⟩ := hz
  have := UInt8.toNat_lt b
  omega
theorem bz_append (a b : ByteArray) : bz (a ++ b) = bz a ++ bz b := by simp [bz]
theorem bz_get (s : ByteArray) (k : Nat) (h : k < s.size) : (bz s)[k]? = some ((s[k].toNat : Nat) : Int) := by
  have h1 : k < s.data.toList.length := by simpa using h
  simp only [bz, List.getElem?_map, List.getElem?_eq_getElem h1, Option.map_some]
  rfl
theorem bytes_below (w : World) (e : TypeId) (s : ByteArray) : Below w.heap.size w (Lib.bytesWorld w e s) := by
  refine ⟨?_, ?_, ?_, by rw [Lib.bytesWorld_size]; omega, fun i hi => Lib.bytesWorld_at_old w e s i hi⟩
  all_goals
    simp only [Lib.bytesWorld, World.freeze]
    split <;> rfl
theorem bytes_cells (w : World) (e : TypeId) (s : ByteArray) (i : Nat) (hi : i < (bz s).length) : (Lib.bytesWorld w e s).cell? ⟨w.heap.size, 0 + i, none⟩ = some (.int .u8 ((bz s).getD i 0)) := by
  rw [bz_length] at hi
  rw [Nat.zero_add, Lib.bytesWorld_cell w e s i hi]
  have h1 : i < s.data.toList.length := by simpa using hi
  simp only [bz, List.getD_eq_getElem?_getD, List.getElem?_map, List.getElem?_eq_getElem h1, Option.map_some, Option.getD_some]



/-- The texts of the parser's errors. -/
def errTxt : Nat → ByteArray
  | 0 => ⟨#[105, 110, 118, 97, 108, 105, 100, 32, 39, 41, 39]⟩
  | 1 => ⟨#[105, 110, 118, 97, 108, 105, 100, 32, 99, 97, 112, 116, 117, 114, 101, 32, 105, 110, 100, 101, 120]⟩
  | 2 => ⟨#[117, 110, 102, 105, 110, 105, 115, 104, 101, 100, 32, 99, 97, 112, 116, 117, 114, 101]⟩
  | _ => ⟨#[117, 110, 101, 120, 112, 101, 99, 116, 101, 100, 32, 69, 79, 83]⟩
/-- An error value raised by the parser. -/
def ErrAt (w' : World) (B : Nat) (p : Int) (m : Nat) (chain : List PanicEntry) : Prop :=
  ∃ g, chain = [{ v := .iface 44 (.pointer (some ⟨g, 0, none⟩)), recovered := false }] ∧ B ≤ g ∧ w'.heap[g]? = some (.cells #[.int .i64 p, .string (errTxt m)] 47 (0, 0))
set_option maxRecDepth 100000 in
theorem newErr_any (p : Int) (s : ByteArray) (w : World) :
    Calls Tryf.prog 27 #[.int .i64 p, .string s, .slice none 0 0] w fun e w' => e = .returned (.pointer (some ⟨w.heap.size, 0, none⟩)) ∧ w' = w.alloc (.cells #[.int .i64 p, .string s] 47) := by
  go_enter Tryf.func27, Tryf.ntmps27
  go_wp2_with fail
  go_ret
  exact ⟨rfl, rfl⟩

end Go.Proofs.YtcfhhcjcnafcjaaFmt
