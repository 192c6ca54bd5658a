/-
  The contracts of Token's String, and of the guard of n005_26. Their condition: strings of at most 2^21 bytes.
-/
import Derived.Test.YtpadgbghgkcogaaFmtFmt
import Derived.RegionTactic
import Derived.BigRegion
import Derived.Deep.RegionWith
import Derived.Deep.RegionHeld3
import Derived.BigGuardPart
import Derived.WalkSpells
namespace Go.Proofs.YtpadgbghgkcogaaFmt
open Go.RowKit Go.Kit
open Go.Extern.Stop Go.Stop Go.Extern
set_option linter.unusedVariables false
set_option linter.unusedSimpArgs false

def tokText (name str : ByteArray) : ByteArray := ⟨(text0 name.data.toList str.data.toList).toArray⟩
theorem tokText_size (name str : ByteArray) : (tokText name str).size = 13 + name.size + str.size := by
  show (text0 name.data.toList str.data.toList).toArray.size = _
  have h1 : name.data.toList.length = name.size := by simp
  have h2 : str.data.toList.length = str.size := by simp
  simp only [text0, List.size_toArray, List.length_append, List.length_cons, List.length_nil, h1, h2]
  omega

set_option maxHeartbeats 1000000 in
theorem tokStr_any (F : Interp) {w : World} (hF : F.told.answers w.tape) {b : Nat} {typ line col : Int} {name str src : ByteArray} (hb : w.heap[b]? = some (.cells #[.int .i64 typ, .string name, .string str, .string src, .int .i64 line, .int .i64 col] 27 (0, 0)))
    (h1 : name.size ≤ 2097152) (h2 : str.size ≤ 2097152) :
    Calls Tryf.prog 5 #[.pointer (some ⟨b, 0, none⟩)] w fun e w' => e = .returned (.string (tokText name str)) ∧ Below w.heap.size w w' := by
  have k1 := blk_cell hb 1 _ rfl
  have k2 := blk_cell hb 2 _ rfl
  have hF' := answers_open hF
  clear hb
  have ht := told0 F name.data.toList str.data.toList (by simp; omega) (by simp; omega)
  have HT := Lib.hid ht
  clear ht
  go_enter Tryf.func5, Tryf.ntmps5
  go_wp2_with fail
  go_region_with (fail)
  all_goals
    go_wp2_with fail
    go_ret
    refine ⟨?_, by repeat (first | exact Below.refl _ _ | apply Below.drew | exact below_drewN ((Below.refl _ _).alloc (Nat.le_refl _) _) 1 | exact (Below.refl _ _).alloc (Nat.le_refl _) _)⟩
    have := HT.out
    unfold read0 at this
    rw [this]
    rfl

def G26 (n s a b : Nat) : Bool := decide (n + s + a + b ≤ 1048576)
set_option maxHeartbeats 1000000 in
theorem g26_any (t1 t2 : Int) (n s a b : ByteArray) (l1 c1 l2 c2 : Int) (hn : n.size ≤ maxLen) (hs : s.size ≤ maxLen) (ha : a.size ≤ maxLen) (hb : b.size ≤ maxLen) (w : World) :
    Calls Tryf.prog 4 #[.int .i64 t1, .int .i64 t2, .string n, .string s, .string a, .string b, .int .i64 l1, .int .i64 c1, .int .i64 l2, .int .i64 c2] w fun e w' => e = .returned (.bool (G26 n.size s.size a.size b.size)) ∧ w = w' := by
  unfold maxLen at hn hs ha hb
  rcases (show 1048576 < n.size ∨ (n.size ≤ 1048576 ∧ 1048576 < s.size) ∨ (n.size ≤ 1048576 ∧ s.size ≤ 1048576 ∧ 1048576 < n.size + s.size) ∨ (n.size + s.size ≤ 1048576 ∧ 1048576 < a.size) ∨ (n.size + s.size ≤ 1048576 ∧ a.size ≤ 1048576 ∧ 1048576 < n.size + s.size + a.size) ∨
    (n.size + s.size + a.size ≤ 1048576 ∧ 1048576 < b.size) ∨ (n.size + s.size + a.size ≤ 1048576 ∧ b.size ≤ 1048576 ∧ 1048576 < n.size + s.size + a.size + b.size) ∨ n.size + s.size + a.size + b.size ≤ 1048576 by omega) with h | ⟨h, h'⟩ | ⟨h, h', h''⟩ | ⟨h, h'⟩ | ⟨h, h', h''⟩ | ⟨h, h'⟩ | ⟨h, h', h''⟩ | h
  all_goals
    go_enter Tryf.func4, Tryf.ntmps4
    go_wp2
    go_ret
    exact ⟨ret_bool (by unfold G26; simp; omega), rfl⟩

end Go.Proofs.YtpadgbghgkcogaaFmt
