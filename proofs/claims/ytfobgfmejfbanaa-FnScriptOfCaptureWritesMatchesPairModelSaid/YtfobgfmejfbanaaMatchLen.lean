/-
  The contract of MatchData's CaptureLength. No condition but that it lies in memory.
-/
import Derived.Test.YtfobgfmejfbanaaMatch
namespace Go.Proofs.Ytfobgfmejfbanaa
open Go.RowKit
set_option linter.unusedVariables false
set_option linter.unusedSimpArgs false

theorem capLen_any {w : World} {m cap : Nat} {ao : Option Addr} {us : List Int} (h : MD w m ao cap us) :
    Calls Try.prog 10 #[.pointer (some ⟨m, 0, none⟩)] w fun e w' => e = .returned (.int .i64 (us.length : Int)) ∧ w = w' := by
  have g0 : w.cell? ⟨m, 0, none⟩ = some (.slice ao us.length cap) := blk_cell h.blk 0 _ rfl
  clear h
  go_enter Try.func10, Try.ntmps10
  go_wp2
  go_ret
  exact ⟨rfl, rfl⟩

end Go.Proofs.Ytfobgfmejfbanaa
