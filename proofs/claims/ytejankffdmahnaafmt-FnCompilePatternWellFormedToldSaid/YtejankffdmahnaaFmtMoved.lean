/-
  What a call may have turned: one block, one row, new blocks. No condition.
-/
import Derived.Test.YtejankffdmahnaaFmtMem
namespace Go.Proofs.YtejankffdmahnaaFmt
open Go.RowKit
set_option linter.unusedVariables false
set_option linter.unusedSimpArgs false

/-- What a method may have turned: the block m, the row that was owned, new blocks. -/
structure Moved (w w' : World) (m : Nat) (ao ao' : Option Addr) : Prop where
  os : w'.os = w.os
  tape : w'.tape = w.tape
  output : w'.output = w.output
  size : w.heap.size ≤ w'.heap.size
  block : ∀ k, k < w.heap.size → k ≠ m → some k ≠ blkOf ao → w'.heap[k]? = w.heap[k]?
  row : blkOf ao' = blkOf ao ∨ ∀ g, blkOf ao' = some g → w.heap.size ≤ g

theorem Moved.refl (w : World) (m : Nat) (ao : Option Addr) : Moved w w m ao ao := ⟨rfl, rfl, rfl, Nat.le_refl _, fun _ _ _ _ => rfl, .inl rfl⟩
theorem Moved.trans {a b c : World} {m : Nat} {x y z : Option Addr} (h : Moved a b m x y) (k : Moved b c m y z) : Moved a c m x z := by
  refine ⟨k.os.trans h.os, k.tape.trans h.tape, k.output.trans h.output, Nat.le_trans h.size k.size, fun i hi hm hx => ?_, ?_⟩
  · refine (k.block i (Nat.lt_of_lt_of_le hi h.size) hm (fun e => ?_)).trans (h.block i hi hm hx)
    rcases h.row with hr | hr
    · exact hx (e.trans hr)
    · have := hr i e.symm; omega
  · rcases k.row with kr | kr
    · rcases h.row with hr | hr
      · exact .inl (kr.trans hr)
      · exact .inr fun g hg => hr g (kr ▸ hg)
    · exact .inr fun g hg => Nat.le_trans h.size (kr g hg)
theorem Moved.below {a b : World} {m : Nat} {x y : Option Addr} (h : Moved a b m x y) {B : Nat} (hm : B ≤ m) (hx : ∀ g, blkOf x = some g → B ≤ g) (hB : B ≤ a.heap.size) : Below B a b :=
  ⟨h.os, h.tape, h.output, h.size, fun i hi => h.block i (by omega) (by omega) (fun e => by have := hx i e.symm; omega)⟩
theorem Moved.rowB {a b : World} {m : Nat} {x y : Option Addr} (h : Moved a b m x y) {B : Nat} (hx : ∀ g, blkOf x = some g → B ≤ g) (hB : B ≤ a.heap.size) : ∀ g, blkOf y = some g → B ≤ g := by
  intro g hg
  rcases h.row with hr | hr
  · exact hx g (hr ▸ hg)
  · exact Nat.le_trans hB (hr g hg)


end Go.Proofs.YtejankffdmahnaaFmt
