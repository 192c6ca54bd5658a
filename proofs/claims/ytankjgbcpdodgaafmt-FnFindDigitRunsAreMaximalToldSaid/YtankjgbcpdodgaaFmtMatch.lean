/-
  The contracts of MatchData's methods: newMatchState, addPosCapture, setCapture, restoreCapture, CaptureLength, IsPosCapture, Capture, over a MatchData that lies in a block of its own and owns its row of words. Their conditions: slots up to 2^30, a row of fewer than 2^31 words.
-/
import Derived.Test.YtankjgbcpdodgaaFmtMem
import Derived.Laws.BitsAllLaws
import Derived.Laws.BitsLemmas
namespace Go.Proofs.YtankjgbcpdodgaaFmt
open Go.RowKit
set_option linter.unusedVariables false
set_option linter.unusedSimpArgs false

/-- A MatchData at block m: its slice value, its words. -/
structure MD (w : World) (m : Nat) (ao : Option Addr) (cap : Nat) (us : List Int) : Prop where
  blk : w.heap[m]? = some (.cells #[.slice ao us.length cap] 54 (0, 0))
  own : w.ownsRow 0 55 1 (.slice ao us.length cap) us.length (us.map (Value.int .u32))
  bd : ∀ u, u ∈ us → 0 ≤ u ∧ u < 4294967296
  len : us.length ≤ 2147483648

/-- What a method may have turned: the block m, the row that was owned, new blocks. -/
structure Moved (w w' : World) (m : Nat) (ao ao' : Option Addr) : Prop where
  os : w'.os = w.os
  tape : w'.tape = w.tape
  output : w'.output = w.output
  size : w.heap.size ≤ w'.heap.size
  block : ∀ k, k < w.heap.size → k ≠ m → some k ≠ blkOf ao → w'.heap[k]? = w.heap[k]?
  row : blkOf ao' = blkOf ao ∨ ∀ g, blkOf ao' = some g → w.heap.size ≤ g

theorem Moved.refl (w : World) (m : Nat) (ao : Option Addr) : Moved w w m ao ao := ⟨rfl, rfl, rfl, Nat.le_refl _, fun _ _ _ _ => rfl, .inl rfl⟩
theorem Moved.trans {a b c : World} {m : Nat} {x y z : Option Addr} (h : Moved a b m x y) (k : Moved b c m y z) : Moved a c m x z := by
  refine ⟨k.os.trans h.os, k.tape.trans h.tape, k.output.trans h.output, Nat.le_trans h.size k.size, fun i hi hm hx => ?_, ?_⟩
  · refine (k.block i (Nat.lt_of_lt_of_le hi h.size) hm (fun e => ?_)).trans (h.block i hi hm hx)
    rcases h.row with hr | hr
    · exact hx (e.trans hr)
    · have := hr i e.symm; omega
  · rcases k.row with kr | kr
    · rcases h.row with hr | hr
      · exact .inl (kr.trans hr)
      · exact .inr fun g hg => hr g (kr ▸ hg)
    · exact .inr fun g hg => Nat.le_trans h.size (kr g hg)
theorem Moved.below {a b : World} {m : Nat} {x y : Option Addr} (h : Moved a b m x y) {B : Nat} (hm : B ≤ m) (hx : ∀ g, blkOf x = some g → B ≤ g) (hB : B ≤ a.heap.size) : Below B a b :=
  ⟨h.os, h.tape, h.output, h.size, fun i hi => h.block i (by omega) (by omega) (fun e => by have := hx i e.symm; omega)⟩
theorem Moved.rowB {a b : World} {m : Nat} {x y : Option Addr} (h : Moved a b m x y) {B : Nat} (hx : ∀ g, blkOf x = some g → B ≤ g) (hB : B ≤ a.heap.size) : ∀ g, blkOf y = some g → B ≤ g := by
  intro g hg
  rcases h.row with hr | hr
  · exact hx g (hr ▸ hg)
  · exact Nat.le_trans hB (hr g hg)

theorem MD.lt {w : World} {m : Nat} {ao : Option Addr} {cap : Nat} {us : List Int} (h : MD w m ao cap us) : m < w.heap.size := blk_lt h.blk
/-- Where there is a word there is a row, at the head of a block that is not m. -/
theorem MD.row {w : World} {m : Nat} {ao : Option Addr} {cap : Nat} {us : List Int} (h : MD w m ao cap us) (h0 : 0 < us.length) : ∃ g, ao = some ⟨g, 0, none⟩ ∧ g ≠ m ∧ g < w.heap.size := by
  rcases h.own.2 with ⟨h1, h2⟩ | ⟨g, c, cur, h1, _, hg, _⟩
  · omega
  · simp only [Value.slice.injEq] at h1
    refine ⟨g, h1.1, ?_, blk_lt hg⟩
    rintro rfl
    have := h.blk
    rw [hg] at this
    simp at this
theorem MD.row' {w : World} {m : Nat} {ao : Option Addr} {cap : Nat} {us : List Int} (h : MD w m ao cap us) : ∀ g, blkOf ao = some g → g ≠ m ∧ g < w.heap.size := by
  intro g' hg'
  rcases h.own.2 with ⟨h1, h2⟩ | ⟨g, c, cur, h1, _, hg, _⟩
  · simp only [Value.slice.injEq] at h1
    rw [h1.1] at hg'; simp [blkOf] at hg'
  · simp only [Value.slice.injEq] at h1
    rw [h1.1] at hg'
    simp only [blkOf, Option.map_some, Option.some.injEq] at hg'
    subst hg'
    refine ⟨?_, blk_lt hg⟩
    rintro rfl
    have := h.blk
    rw [hg] at this
    simp at this
theorem MD.cell {w : World} {m g : Nat} {cap : Nat} {us : List Int} (h : MD w m (some ⟨g, 0, none⟩) cap us) (i : Nat) (hi : i < us.length) : w.cell? ⟨g, i, none⟩ = some (.int .u32 (us.getD i 0)) := by
  rw [h.own.cellAt i (by omega), List.getElem?_map, List.getElem?_eq_getElem hi, List.getD_eq_getElem?_getD, List.getElem?_eq_getElem hi]; rfl
theorem MD.free {w : World} {m g : Nat} {cap : Nat} {us : List Int} (h : MD w m (some ⟨g, 0, none⟩) cap us) (i : Nat) : w.frozen? ⟨g, i, none⟩ = false := h.own.frozenAt i
theorem MD.word {w : World} {m : Nat} {ao : Option Addr} {cap : Nat} {us : List Int} (h : MD w m ao cap us) (i : Nat) : 0 ≤ us.getD i 0 ∧ us.getD i 0 < 4294967296 := by
  rcases Nat.lt_or_ge i us.length with hi | hi
  · rw [List.getD_eq_getElem?_getD, List.getElem?_eq_getElem hi]; exact h.bd _ (List.getElem_mem hi)
  · rw [List.getD_eq_getElem?_getD, List.getElem?_eq_none hi]; simp

/-- What is written elsewhere leaves it. -/
theorem MD.kept {w w' : World} {m : Nat} {ao : Option Addr} {cap : Nat} {us : List Int} (h : MD w m ao cap us) (hm : w'.heap[m]? = w.heap[m]?) (hr : ∀ g, blkOf ao = some g → w'.heap[g]? = w.heap[g]?) : MD w' m ao cap us := by
  refine ⟨hm.trans h.blk, ⟨h.own.1, ?_⟩, h.bd, h.len⟩
  rcases h.own.2 with ⟨h1, h2⟩ | ⟨g, c, cur, h1, hb, hg, r⟩
  · exact .inl ⟨h1, h2⟩
  · refine .inr ⟨g, c, cur, h1, hb, (hr g ?_).trans hg, r⟩
    simp only [Value.slice.injEq] at h1
    rw [h1.1]; rfl

/-- A store of a word. -/
theorem MD.store {w : World} {m g : Nat} {cap : Nat} {us : List Int} (h : MD w m (some ⟨g, 0, none⟩) cap us) (i : Nat) (u : Int) (hi : i < us.length) (hu : 0 ≤ u ∧ u < 4294967296) :
    MD (w.setCell ⟨g, i, none⟩ (.int .u32 u)) m (some ⟨g, 0, none⟩) cap (us.set i u) ∧ Moved w (w.setCell ⟨g, i, none⟩ (.int .u32 u)) m (some ⟨g, 0, none⟩) (some ⟨g, 0, none⟩) := by
  obtain ⟨g', hg', hne, hlt⟩ := h.row (by omega)
  simp only [Option.some.injEq, Addr.mk.injEq, and_true] at hg'
  subst hg'
  have hs := h.own.stored i (.int .u32 u)
  refine ⟨⟨?_, ?_, ?_, by rw [List.length_set]; exact h.len⟩, hs.2.os, hs.2.tape, hs.2.output, hs.2.size, fun k hk hm hx => hs.2.block k hk hx, .inl rfl⟩
  · rw [List.length_set, Below.heap_setCell _ _ _ _ (by exact fun e => hne e.symm)]; exact h.blk
  · rw [List.length_set, List.map_set]; exact hs.1
  · intro x hx
    rcases List.mem_or_eq_of_mem_set hx with hx | hx
    · exact h.bd x hx
    · rw [hx]; exact hu

theorem Moved.owns {w w' : World} {m : Nat} {x y : Option Addr} (h : Moved w w' m x y) {B : Nat} {T : TypeId} {ao : Option Addr} {n cap : Nat} {xs : List Value} (ho : w.ownsRow B T 1 (.slice ao n cap) n xs)
    (hne : ∀ g, blkOf ao = some g → g ≠ m ∧ some g ≠ blkOf x) : w'.ownsRow B T 1 (.slice ao n cap) n xs := by
  refine ⟨ho.1, ?_⟩
  rcases ho.2 with h2 | ⟨g, c, cur, h1, hb, hg, r⟩
  · exact .inl h2
  · refine .inr ⟨g, c, cur, h1, hb, ?_, r⟩
    simp only [Value.slice.injEq] at h1
    have := hne g (by rw [h1.1]; rfl)
    exact (h.block g (blk_lt hg) this.1 this.2).trans hg

/-- What a copy of words gives: a row of the call's own. -/
def CopiedOwn (w : World) (zs : List Int) (e : Ending) (w' : World) : Prop :=
  ∃ a' c', e = .returned (.slice a' zs.length c') ∧ Fresh w.heap.size w' a' ∧ w'.ownsRow w.heap.size 55 1 (.slice a' zs.length c') zs.length (zs.map (Value.int .u32)) ∧ RowInt .u32 w' a' zs ∧ Below w.heap.size w w'
theorem owns_of_row {w : World} {g B : Nat} {T : TypeId} {n : Nat} {f : Nat → Value} {zs : List Int} (h : w.rowIs g T n f) (hn : zs.length = n) (hm : n ≤ maxLen) (hB : B ≤ g) (hf : ∀ i, i < n → f i = .int .u32 (zs.getD i 0)) :
    w.ownsRow B T 1 (.slice (some ⟨g, 0, none⟩) zs.length n) zs.length (zs.map (Value.int .u32)) := by
  rw [hn]
  obtain ⟨c, hc, hs, hv⟩ := h
  refine ⟨by simpa using hn, .inr ⟨g, n, c, rfl, hB, hc, Nat.le_refl _, hm, by omega, ?_⟩⟩
  apply List.ext_getElem?
  intro i
  rw [Nat.mul_one]
  rcases Nat.lt_or_ge i n with hi | hi
  · rw [List.getElem?_take_of_lt hi, Array.getElem?_toList, hv i hi, hf i hi, List.getElem?_map, List.getElem?_eq_getElem (by omega), List.getD_eq_getElem?_getD, List.getElem?_eq_getElem (by omega)]; rfl
  · rw [List.getElem?_take_eq_none hi, List.getElem?_map, List.getElem?_eq_none (by omega)]; rfl

/-- The words with zeros behind them up to n. -/
def ext (us : List Int) (n : Nat) : List Int := us ++ List.replicate (n - us.length) 0
theorem length_ext (us : List Int) (n : Nat) : (ext us n).length = max us.length n := by simp [ext]; omega
theorem ext_same {us : List Int} {n : Nat} (h : n ≤ us.length) : ext us n = us := by simp [ext, Nat.sub_eq_zero_of_le h]
theorem ext_snoc {us : List Int} {n : Nat} (h : us.length < n) : ext (us ++ [0]) n = ext us n := by
  simp only [ext, List.append_assoc, List.length_append, List.length_singleton]
  rw [show n - us.length = (n - (us.length + 1)) + 1 by omega, List.replicate_succ]; rfl

/-- The word of a plain capture at p; of a position capture. -/
def capW (p : Int) : Int := p % 4294967296 * 2 % 4294967296
def posW (p : Int) : Int := capW p + 1
theorem capW_bd (p : Int) : 0 ≤ capW p ∧ capW p < 4294967296 := by unfold capW; omega
theorem posW_bd (p : Int) : 0 ≤ posW p ∧ posW p < 4294967296 := by unfold posW capW; omega
theorem or_one (k : Nat) (hk : k < 2147483648) : bits .or .u32 ((2 * k : Nat) : Int) 1 = ((2 * k : Nat) : Int) + 1 := by
  have h1 : (BitVec.ofInt 32 ((2 * k : Nat) : Int)).toNat = 2 * k := by rw [BitVec.ofInt_natCast, BitVec.toNat_ofNat]; exact Nat.mod_eq_of_lt (by omega)
  have h2 : (BitVec.ofInt 32 (1 : Int)).toNat = 1 := rfl
  have h3 : 2 * k ||| 1 = 2 * k + 1 := by
    have := Nat.two_pow_add_eq_or_of_lt (i := 1) (b := 1) (by omega) k
    simpa using this.symm
  show IntKind.u32.wrap ((BitVec.ofInt 32 ((2 * k : Nat) : Int) ||| BitVec.ofInt 32 (1 : Int)).toNat : Int) = _
  rw [BitVec.toNat_or, h1, h2, h3, IntKind.wrap_u32]
  omega
theorem posW_eq (p : Int) : bits .or .u32 (p % 4294967296 * 2 % 4294967296) 1 = posW p := by
  have h := or_one (p % 2147483648).toNat (by omega)
  have e : ((2 * (p % 2147483648).toNat : Nat) : Int) = p % 4294967296 * 2 % 4294967296 := by omega
  rw [e] at h
  exact h

theorem u32_info : (Tryf.prog.info? 55).map (fun i => (i.zero, i.size, i.bytes)) = some (some (.int .u32 0), 1, 4) := by kernel_rfl

/-- The value that an append leaves: not nil. -/
theorem owns_some {w : World} {T : TypeId} {v : Value} {n : Nat} {xs : List Value} (h : w.ownsRow 0 T 1 v (n + 1) xs) : ∃ g cap, v = .slice (some ⟨g, 0, none⟩) (n + 1) cap := by
  rcases h.2 with ⟨_, h2⟩ | ⟨g, cap, cur, h1, _⟩
  · omega
  · exact ⟨g, cap, h1⟩


/-- Behind the append the MatchData's own block still stands as it was. -/
theorem MD.mid {w w1 : World} {m cap : Nat} {ao : Option Addr} {us : List Int} {o : Obj} (h : MD w m ao cap us) (hg : (w.alloc o).grownBy w1 (blkOf ao)) :
    w1.heap[m]? = some (.cells #[.slice ao us.length cap] 54 (0, 0)) :=
  blk_grown (blk_alloc h.blk o) hg (by
    intro e
    exact (h.row' m e.symm).1 rfl)

/-- One zero appended, and the new slice stored. -/
theorem MD.grow {w w1 : World} {m g' cap cap' : Nat} {ao : Option Addr} {us : List Int} {o : Obj} (h : MD w m ao cap us) (hl : us.length + 1 ≤ 2147483648)
    (hown : w1.ownsRow 0 55 1 (.slice (some ⟨g', 0, none⟩) (us.length + 1) cap') (us.length + 1) (us.map (Value.int .u32) ++ [.int .u32 0])) (hg : (w.alloc o).grownBy w1 (blkOf ao))
    (hr : blkOf ao = some g' ∨ w.heap.size ≤ g') :
    MD (w1.setCell ⟨m, 0, none⟩ (.slice (some ⟨g', 0, none⟩) (us.length + 1) cap')) m (some ⟨g', 0, none⟩) cap' (us ++ [0]) ∧ Moved w (w1.setCell ⟨m, 0, none⟩ (.slice (some ⟨g', 0, none⟩) (us.length + 1) cap')) m ao (some ⟨g', 0, none⟩) := by
  have hmid := h.mid hg
  have hne : g' ≠ m := by
    rcases hown.2 with ⟨h1, _⟩ | ⟨g, c, cur, h1, _, hg', _⟩
    · simp at h1
    · simp only [Value.slice.injEq, Option.some.injEq, Addr.mk.injEq, and_true] at h1
      rintro rfl
      rw [← h1.1, hmid] at hg'
      simp at hg'
  refine ⟨⟨?_, ?_, ?_, by simpa using hl⟩, hg.os, hg.tape, hg.output, ?_, fun k hk hm hx => ?_, ?_⟩
  · rw [List.length_append, List.length_singleton]
    exact blk_set hmid 0 _
  · rw [List.length_append, List.length_singleton, List.map_append]
    exact ownsRow_setCell_other hown (by rw [ownBlock_slice]; simp only [blkOf, Option.map_some, ne_eq, Option.some.injEq]; exact hne) _
  · intro u hu
    rcases List.mem_append.1 hu with hu | hu
    · exact h.bd u hu
    · simp at hu; subst hu; omega
  · have := hg.size
    simp only [World.setCell, Array.size_modify]
    exact Nat.le_trans (by simp) this
  · rw [Below.heap_setCell _ _ _ _ hm]
    exact (hg.block k (by simp; omega) hx).trans (Below.heap_alloc w o k hk)
  · rcases hr with hr | hr
    · exact .inl hr.symm
    · exact .inr fun g hgg => by simp only [blkOf, Option.map_some, Option.some.injEq] at hgg; omega

end Go.Proofs.YtankjgbcpdodgaaFmt
