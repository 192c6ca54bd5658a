/-
  The contract of newMatchState: a MatchData without a word, in two new blocks. No condition.
-/
import Derived.Test.YtfobgfmejfbanaaMatch
namespace Go.Proofs.Ytfobgfmejfbanaa
open Go.RowKit
set_option linter.unusedVariables false
set_option linter.unusedSimpArgs false

theorem newMatch_any (w : World) : Calls Try.prog 27 #[] w fun e w' => e = .returned (.pointer (some ⟨w.heap.size + 1, 0, none⟩)) ∧ MD w' (w.heap.size + 1) (some ⟨w.heap.size, 0, none⟩) 0 [] ∧ Below w.heap.size w w' ∧ w'.heap.size = w.heap.size + 2 := by
  go_enter Try.func27, Try.ntmps27
  go_wp2
  go_ret
  have hsz : (w.alloc (Obj.cells #[] 29)).heap.size = w.heap.size + 1 := by simp
  refine ⟨rfl, ⟨?_, ?_, fun u hu => absurd hu (by simp), by simp⟩, ((Below.refl _ _).alloc (Nat.le_refl _) _).alloc (by simp) _, by simp⟩
  · have := blk_new (w.alloc (Obj.cells #[] 29)) (Obj.cells #[Value.slice (some { block := w.heap.size, off := 0 }) 0 0] 44)
    rw [hsz] at this
    exact this
  · exact (World.ownsRow_lit (e := 29) (size := 1) w #[] 0 (Nat.zero_le _) (Nat.zero_le _) rfl).alloc _

end Go.Proofs.Ytfobgfmejfbanaa
