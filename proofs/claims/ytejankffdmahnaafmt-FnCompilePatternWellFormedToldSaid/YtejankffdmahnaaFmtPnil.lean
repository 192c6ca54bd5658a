/-
  The contract of parsePattern over an empty source. Its condition: the scanner lies in a block of its own.
-/
import Derived.Test.YtejankffdmahnaaFmtParsePat
namespace Go.Proofs.YtejankffdmahnaaFmt
open Go.RowKit
set_option linter.unusedVariables false
set_option linter.unusedSimpArgs false

section
variable {w : World} {b : Nat} {sao : Option Addr} {scap : Nat} {s : Nat}
theorem peek_nil {c : Nat} (h : Scan w b sao scap [] c s) :
    Calls Tryf.prog 21 #[.pointer (some ⟨b, 0, none⟩)] w fun e w' => e = .returned (.int .i64 (-1)) ∧ Scan w' b sao scap [] 1 s ∧ w.grownBy w' (some b) := by
  have hc : c ≤ 1 := h.cb
  refine (peek_any h).mono fun e w' ⟨h1, h2, h3⟩ => ⟨h1, ?_, h3⟩
  have e1 : peekC ([] : List Int).length c = 1 := by
    have hc2 : c = 0 ∨ c = 1 := by clear h1 h2 h3; omega
    rcases hc2 with rfl | rfl <;> rfl
  rw [e1] at h2
  exact h2
set_option maxRecDepth 1000000 in
set_option maxHeartbeats 1000000 in
theorem parsePat_nil (h : Scan w b sao scap [] 0 s) : Calls Tryf.prog 19 #[.pointer (some ⟨b, 0, none⟩), .bool true] w (PatPost w b sao scap [] false false [] 1) := by
  have hbw := Lib.hid (blk_lt h.blk)
  have HO := Lib.hid (patO_start w)
  have HS := Lib.hid (h.grownAlloc (.cells #[.bool false, .bool false, .slice none 0 0] 86))
  have HG := Lib.hid (one_alloc (one_refl w (some b)) (.cells #[.bool false, .bool false, .slice none 0 0] 86))
  clear h
  go_enter Tryf.func19, Tryf.ntmps19
  go_wp2_with fail
  refine wp_scope_exit 0 rfl (fun _ _ _ h => h) ?_
  go_wp2_with fail
  generalize w.alloc (.cells #[.bool false, .bool false, .slice none 0 0] 86) = w0 at *
  refine (peek_nil HS.out).mono ?_
  rintro e w1 ⟨rfl, hs1, hg1⟩
  have HO1 := Lib.hid (HO.out.call hg1 hbw.out)
  have HS1 := Lib.hid hs1
  have HG1 := Lib.hid (one_trans HG.out hg1)
  clear hs1 hg1
  go_wp2_with fail
  refine wp_loop_ghost (fun n a' w' => a' = _ ∧ w' = w1) 0 ⟨rfl, rfl⟩ ?_
  rintro n a' w' ⟨rfl, rfl⟩
  go_wp2_with fail
  refine (peek_nil HS1.out).mono ?_
  rintro e w2 ⟨rfl, hs2, hg2⟩
  have HO2 := Lib.hid (HO1.out.call hg2 hbw.out)
  have HS2 := Lib.hid hs2
  have HG2 := Lib.hid (one_trans HG1.out hg2)
  clear hs2 hg2
  go_wp2_with fail
  refine (next_top HS2.out (Nat.zero_le _)).mono ?_
  rintro e w3 ⟨rfl, hs3, hg3⟩
  have HO3 := Lib.hid (HO2.out.call hg3 hbw.out)
  have HS3 := Lib.hid hs3
  have HG3 := Lib.hid (one_trans HG2.out hg3)
  clear hs3 hg3
  go_wp2_with fail
  go_step3
  refine ⟨rfl, ?_⟩
  go_wp2_with fail
  go_ret
  exact patPost_mk rfl HO3.out HS3.out HG3.out
end
end Go.Proofs.YtejankffdmahnaaFmt
