/-
  The bytes of a string as numbers, and what a conversion of a string to bytes leaves. No condition.
-/
import Derived.Test.YtcfhhcjcnafcjaaFmtScan
import Derived.Lib.ConvBytes
namespace Go.Proofs.YtcfhhcjcnafcjaaFmt
open Go.RowKit
set_option linter.unusedVariables false
set_option linter.unusedSimpArgs false

/-- The bytes of a string as numbers. -/
def bz (s : ByteArray) : List Int := s.data.toList.map fun b => (b.toNat : Int)
theorem bz_length (s : ByteArray) : (bz s).length = s.size := by simp [bz]
theorem bz_byte (s : ByteArray) : ∀ z, z ∈ bz s → 0 ≤ z ∧ z ≤ 255 := by
  intro z hz
  simp only [bz, List.mem_map] at hz
  obtain ⟨b, _, rfl⟩ := hz
  have := UInt8.toNat_lt b
  omega
theorem bz_append (a b : ByteArray) : bz (a ++ b) = bz a ++ bz b := by simp [bz]
theorem bz_get (s : ByteArray) (k : Nat) (h : k < s.size) : (bz s)[k]? = some ((s[k].toNat : Nat) : Int) := by
  have h1 : k < s.data.toList.length := by simpa using h
  simp only [bz, List.getElem?_map, List.getElem?_eq_getElem h1, Option.map_some]
  rfl
theorem bytes_below (w : World) (e : TypeId) (s : ByteArray) : Below w.heap.size w (Lib.bytesWorld w e s) := by
  refine ⟨?_, ?_, ?_, by rw [Lib.bytesWorld_size]; omega, fun i hi => Lib.bytesWorld_at_old w e s i hi⟩
  all_goals
    simp only [Lib.bytesWorld, World.freeze]
    split <;> rfl
theorem bytes_cells (w : World) (e : TypeId) (s : ByteArray) (i : Nat) (hi : i < (bz s).length) : (Lib.bytesWorld w e s).cell? ⟨w.heap.size, 0 + i, none⟩ = some (.int .u8 ((bz s).getD i 0)) := by
  rw [bz_length] at hi
  rw [Nat.zero_add, Lib.bytesWorld_cell w e s i hi]
  have h1 : i < s.data.toList.length := by simpa using hi
  simp only [bz, List.getD_eq_getElem?_getD, List.getElem?_map, List.getElem?_eq_getElem h1, Option.map_some, Option.getD_some]

end Go.Proofs.YtcfhhcjcnafcjaaFmt
