/-
  The contracts of parseClassSet and parseClass where the pattern ends at '['. Their condition: the scanner lies in a block of its own and stands there.
-/
import Derived.Test.YtcfhhcjcnafcjaaFmtParseCls
import Derived.Test.YtcfhhcjcnafcjaaFmtScan2
import Derived.Test.YtcfhhcjcnafcjaaFmtErr
namespace Go.Proofs.YtcfhhcjcnafcjaaFmt
open Go.RowKit
set_option linter.unusedVariables false
set_option linter.unusedSimpArgs false

section
variable {w : World} {b : Nat} {sao : Option Addr} {scap : Nat} {zs : List Int} {c s : Nat}
def ClErr (w : World) (b : Nat) (p : Int) (e : Ending) (w' : World) : Prop := ∃ ch, e = .panicked ch ∧ w.grownBy w' (some b) ∧ ErrAt w' w.heap.size p 3 ch
set_option maxHeartbeats 4000000 in
set_option maxRecDepth 100000 in
theorem parseSet_err (h : Scan w b sao scap zs c s) (h0 : 0 < zs.length) (hc : c = zs.length) :
    Calls Tryf.prog 39 #[.pointer (some ⟨b, 0, none⟩)] w (ClErr w b ((c : Int) - 1)) := by
  have hbw := Lib.hid (blk_lt h.blk)
  have hsrc := Lib.hid (h.srcLt h0)
  have HS0 := Lib.hid ((h.grownAlloc (.cells #[] 97)).grownAlloc (.cells #[.bool false, .slice (some ⟨w.heap.size, 0, none⟩) 0 0] 142))
  have HG0 := Lib.hid (one_alloc (one_alloc (one_refl w (some b)) (.cells #[] 97)) (.cells #[.bool false, .slice (some ⟨w.heap.size, 0, none⟩) 0 0] 142))
  have H1 : Hid (chr zs c = -1) := Lib.hid (by unfold chr; rw [if_neg (by omega)])
  have HP : Hid (posOf zs.length c = (c : Int) - 1) := Lib.hid (by unfold posOf; rw [if_neg (by omega), if_pos (by omega)])
  clear h
  go_enter Tryf.func39, Tryf.ntmps39
  go_wp2_with fail
  refine wp_scope_exit 0 rfl (fun _ _ _ h => h) ?_
  go_wp2_with fail
  refine (peek_at HS0.out h0 H1.out).mono ?_
  rintro e w1 ⟨rfl, hs1, hg1⟩
  have HS1 := Lib.hid hs1
  have HG1 := Lib.hid (one_trans HG0.out hg1)
  clear hs1 hg1 HS0 HG0
  go_wp2_with fail
  refine wp_loop_once ?_
  go_wp2_with fail
  refine (peek_at HS1.out h0 H1.out).mono ?_
  rintro e w2 ⟨rfl, hs2, hg2⟩
  have HS2 := Lib.hid hs2
  have HG2 := Lib.hid (one_trans HG1.out hg2)
  have HCU := Lib.hid (cur_any hs2)
  rw [HP.out] at HCU
  clear hs2 hg2 HS1 HG1
  go_wp2_with fail
  refine HCU.out.mono ?_
  rintro e wx ⟨rfl, rfl⟩
  go_wp2_with fail
  refine (newErr_any _ _ _).mono ?_
  rintro e wx ⟨rfl, rfl⟩
  go_wp2_with fail
  exact ⟨rfl, _, rfl, one_alloc HG2.out _, w2.heap.size, rfl, HG2.out.size, by rw [hc]; exact blk_new _ _⟩
set_option maxHeartbeats 4000000 in
set_option maxRecDepth 100000 in
theorem parseCls_err (h : Scan w b sao scap zs c s) (hz : chr zs c = 91) (hc : c + 1 = zs.length) :
    Calls Tryf.prog 30 #[.pointer (some ⟨b, 0, none⟩), .bool true] w (ClErr w b (c : Int)) := by
  have HN := Lib.hid (next_at h (by omega) hz)
  have HC := Lib.hid hc
  clear h hz hc
  go_enter Tryf.func30, Tryf.ntmps30
  go_wp2_with fail
  refine HN.out.mono ?_
  rintro e w1 ⟨rfl, hs1, hg1⟩
  have HS := Lib.hid hs1
  have HG := Lib.hid hg1
  clear hs1 hg1
  go_wp2_with fail
  refine (parseSet_err HS.out (by have := HC.out; omega) HC.out).mono ?_
  rintro e w2 ⟨ch, rfl, hgr, g, rfl, hg, hb⟩
  exact ⟨rfl, _, rfl, one_trans HG.out hgr, g, rfl, Nat.le_trans HG.out.size hg, by rw [hb]; simp⟩
end

end Go.Proofs.YtcfhhcjcnafcjaaFmt
