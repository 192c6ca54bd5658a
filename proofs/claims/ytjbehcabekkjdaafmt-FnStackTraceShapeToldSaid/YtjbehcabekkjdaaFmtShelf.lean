/-
  strings.Join at this program: the shelf's contract, laid in plain words by the shelf's own tools (lay-shelf.mjs, lay-plain.mjs). Condition: as the contract states.
-/
import Derived.Shelf.Strings.OnBuilder
import Derived.Test.YtjbehcabekkjdaaFmtProg
namespace Go.Proofs
open Go.Shelf
def Tryf.lays156_ren : Go.Shelf.Ren := ⟨fun | 156 => 41 | 165 => 42 | 166 => 43 | 169 => 44 | 240 => 45 | 241 => 46 | 276 => 47 | 277 => 48 | n => n, fun | 31 => 84 | 9 => 9 | 3 => 3 | 4 => 4 | 0 => 0 | 20 => 20 | 72 => 106 | 76 => 110 | 70 => 104 | 37 => 100 | 75 => 109 | 127 => 113 | 164 => 114 | 5 => 5 | 80 => 112 | n => n, fun | n => n⟩
theorem Tryf.lays156 : Go.Proofs.Lays.n156 Tryf.prog Tryf.lays156_ren := {
  mixed := by kernel_rfl
  f156 := Tryf.func41.trans (congrArg some (by kernel_rfl))
  f165 := Tryf.func42.trans (congrArg some (by kernel_rfl))
  f166 := Tryf.func43.trans (congrArg some (by kernel_rfl))
  f169 := Tryf.func44.trans (congrArg some (by kernel_rfl))
  f240 := Tryf.func45.trans (congrArg some (by kernel_rfl))
  f241 := Tryf.func46.trans (congrArg some (by kernel_rfl))
  f276 := Tryf.func47.trans (congrArg some (by kernel_rfl))
  f277 := Tryf.func48.trans (congrArg some (by kernel_rfl))
  t0 := Tryf.underlying0
  a0 := Tryf.isAgg0
  z0 := Tryf.sizeOf0
  v0 := Tryf.zeroValue0
  t3 := Tryf.underlying3
  a3 := Tryf.isAgg3
  z3 := Tryf.sizeOf3
  v3 := Tryf.zeroValue3
  t4 := Tryf.underlying4
  a4 := Tryf.isAgg4
  z4 := Tryf.sizeOf4
  v4 := Tryf.zeroValue4
  t9 := Tryf.underlying9
  a9 := Tryf.isAgg9
  z9 := Tryf.sizeOf9
  v9 := Tryf.zeroValue9
  t20 := Tryf.underlying20
  a20 := Tryf.isAgg20
  z20 := Tryf.sizeOf20
  v20 := Tryf.zeroValue20
  t31 := Tryf.underlying84
  a31 := Tryf.isAgg84
  z31 := Tryf.sizeOf84
  v31 := Tryf.zeroValue84
  t37 := Tryf.underlying100
  a37 := Tryf.isAgg100
  z37 := Tryf.sizeOf100
  v37 := Tryf.zeroValue100
  t70 := Tryf.underlying104
  a70 := Tryf.isAgg104
  z70 := Tryf.sizeOf104
  v70 := Tryf.zeroValue104
  t72 := Tryf.underlying106
  a72 := Tryf.isAgg106
  z72 := Tryf.sizeOf106
  v72 := Tryf.zeroValue106
  t75 := Tryf.underlying109
  a75 := Tryf.isAgg109
  z75 := Tryf.sizeOf109
  v75 := Tryf.zeroValue109
  t76 := Tryf.underlying110
  a76 := Tryf.isAgg110
  z76 := Tryf.sizeOf110
  v76 := Tryf.zeroValue110
  t127 := Tryf.underlying113
  a127 := Tryf.isAgg113
  z127 := Tryf.sizeOf113
  v127 := Tryf.zeroValue113
  t164 := Tryf.underlying114
  a164 := Tryf.isAgg114
  z164 := Tryf.sizeOf114
  v164 := Tryf.zeroValue114 }
theorem Tryf.Builder_Extra_156 : Builder.Extra Tryf.prog Tryf.lays156_ren := {
  sizeBuilder := by kernel_rfl
  liesBuilder := by kernel_rfl
  t5 := Tryf.underlying5
  a5 := Tryf.isAgg5
  z5 := Tryf.sizeOf5
  v5 := Tryf.zeroValue5
  infoByte := by kernel_rfl
  cellsByte := by kernel_rfl
  sizeByte := by kernel_rfl
  neB5 := by decide }
open Go.RowKit in
/-- No element: the empty string; the world is as it was. (Whatever the slice's address and capacity: a nil slice too.) (LAID: no walk: one application.) -/
theorem Tryf.strings_Join_none (a : Option Addr) (c : Nat) (sep : ByteArray) (w : World) :
    Calls Tryf.prog 41 #[.slice a 0 c, .string sep] w fun e w' => e = .returned (.string ⟨#[]⟩) ∧ w' = w := Any.strings_Join_none Tryf.lays156 Tryf.Builder_Extra_156 a c sep w
open Go.RowKit in
/-- strings.Join: "Join concatenates the elements of its first argument to create a single string. The separator string sep is placed between elements in the resulting string.": HOWEVER MANY ELEMENTS. Below the heap's end the world is as it was. (LAID: no walk: one application.) -/
theorem Tryf.strings_Join (bk o c : Nat) (xs : List ByteArray) (sep : ByteArray) (w : World) (hcells : ∀ (j : Nat) x, xs[j]? = some x → w.cell? ⟨bk, o + j, none⟩ = some (.string x)) (hbk : bk < w.heap.size) (hN : xs.length ≤ 140737488355328) (hcap : xs.length ≤ c) (hlen : (Lib.join (xs.map (·.data.toList)) sep.data.toList).length ≤ 140737488355328) :
    Calls Tryf.prog 41 #[.slice (some ⟨bk, o, none⟩) xs.length c, .string sep] w fun e w' => e = .returned (.string ⟨(Lib.join (xs.map (·.data.toList)) sep.data.toList).toArray⟩) ∧ Below w.heap.size w w' := Any.strings_Join Tryf.lays156 Tryf.Builder_Extra_156 bk o c xs sep w hcells hbk hN hcap hlen
end Go.Proofs
