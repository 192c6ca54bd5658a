/-
  The contract of MatchData's restoreCapture. Its condition: the slot is below the length.
-/
import Derived.Test.YtfobgfmejfbanaaMatch
namespace Go.Proofs.Ytfobgfmejfbanaa
open Go.RowKit
set_option linter.unusedVariables false
set_option linter.unusedSimpArgs false

theorem restCap_any {w : World} {m cap : Nat} {ao : Option Addr} {us : List Int} (i : Nat) (u : Int) (h : MD w m ao cap us) (hi : i < us.length) (hu : 0 ≤ u ∧ u < 4294967296) :
    Calls Try.prog 26 #[.pointer (some ⟨m, 0, none⟩), .int .i64 (i : Int), .int .u32 u] w fun e w' => e = .returned (.tuple #[]) ∧ MD w' m ao cap (us.set i u) ∧ Moved w w' m ao ao := by
  obtain ⟨g, rfl, hne, hlt⟩ := h.row (by omega)
  have g0 : w.cell? ⟨m, 0, none⟩ = some (.slice (some ⟨g, 0, none⟩) us.length cap) := blk_cell h.blk 0 _ rfl
  have hc := h.cell i hi
  have hf := h.free i
  have hlen := h.len
  obtain ⟨u1, hu1⟩ : ∃ u, u = us.getD i 0 := ⟨_, rfl⟩
  rw [← hu1] at hc
  have HS := Lib.hid (h.store i u hi hu)
  clear h hu1
  go_enter Try.func26, Try.ntmps26
  go_wp2
  go_end0
  exact ⟨rfl, HS.out.1, HS.out.2⟩

end Go.Proofs.Ytfobgfmejfbanaa
