/-
  The contract of parseClass where a class stands. Its condition: the scanner lies in a block of its own; the source has at most 2^22 bytes; the class is whole.
-/
import Derived.Test.YtcfhhcjcnafcjaaFmtParseSet
namespace Go.Proofs.YtcfhhcjcnafcjaaFmt
open Go.RowKit
set_option linter.unusedVariables false
set_option linter.unusedSimpArgs false

section
variable {w : World} {b : Nat} {ao : Option Addr} {cap : Nat} {zs : List Int} {c s : Nat}

theorem clPost_chr {w w1 : World} (z : Int) {c' : Nat} (hs : Scan w1 b ao cap zs c' s) (hg : w.grownBy w1 (some b)) :
    ClPost w b ao cap zs s (.el (.chr z), c') (.returned (.iface 112 (.pointer (some ⟨w1.heap.size, 0, none⟩)))) (w1.alloc (.cells #[.int .i64 z] 114)) :=
  ⟨_, _, rfl, ⟨w1.heap.size, rfl, by have := hg.size; omega, blk_new _ _⟩, hs.grownAlloc _, one_alloc hg _⟩
theorem clPost_sgl {w w1 : World} (z : Int) {c' : Nat} (hs : Scan w1 b ao cap zs c' s) (hg : w.grownBy w1 (some b)) :
    ClPost w b ao cap zs s (.el (.sgl z), c') (.returned (.iface 132 (.pointer (some ⟨w1.heap.size, 0, none⟩)))) (w1.alloc (.cells #[.int .i64 z] 134)) :=
  ⟨_, _, rfl, ⟨w1.heap.size, rfl, by have := hg.size; omega, blk_new _ _⟩, hs.grownAlloc _, one_alloc hg _⟩
theorem clPost_dot {w w1 : World} {c' : Nat} (hs : Scan w1 b ao cap zs c' s) (hg : w.grownBy w1 (some b)) (o : Obj) (x : Nat) :
    ClPost w b ao cap zs s (.dot, c') (.returned (.iface 135 (.pointer (some ⟨x, 0, none⟩)))) (w1.alloc o) :=
  ⟨_, _, rfl, ⟨x, rfl⟩, hs.grownAlloc _, one_alloc hg _⟩

set_option maxHeartbeats 1000000 in
theorem parseCls_any (h : Scan w b ao cap zs c s) (hl : zs.length ≤ 4194304) {R : Cl × Nat} (hR : parseCls zs c = some R) :
    Calls Tryf.prog 30 #[.pointer (some ⟨b, 0, none⟩), .bool true] w (ClPost w b ao cap zs s R) := by
  have hc : c < zs.length := by
    rcases Nat.lt_or_ge c zs.length with h1 | h1
    · exact h1
    · unfold parseCls at hR; rw [if_pos h1] at hR; cases hR
  have hzb := chr_mem h.byte hc
  have HN := Lib.hid (next_at h (by omega) rfl)
  unfold parseCls at hR
  rw [if_neg (by omega)] at hR
  obtain ⟨z, hz⟩ : ∃ z, chr zs c = z := ⟨_, rfl⟩
  rw [hz] at HN hzb hR
  have hz0 := hzb.1
  clear hz
  rcases (show z = 37 ∨ z = 46 ∨ z = 91 ∨ ((z == 37) = false ∧ (z == 46) = false ∧ (z == 91) = false ∧ (z == -1) = false) by simp; omega) with rfl | rfl | rfl | ⟨n1, n2, n3, n4⟩
  · obtain rfl : (Cl.el (.sgl (chr zs (c + 1))), c + 2) = R := by simpa using hR
    clear hR hzb h
    go_enter Tryf.func30, Tryf.ntmps30
    go_wp2_with fail
    refine HN.out.mono ?_
    rintro e w1 ⟨rfl, hs1, hg1⟩
    have HS := Lib.hid hs1
    have HG := Lib.hid hg1
    clear hs1 hg1
    go_wp2_with fail
    refine (next_at HS.out (by omega) rfl).mono ?_
    rintro e w2 ⟨rfl, hs2, hg2⟩
    have HS2 := Lib.hid hs2
    have HG2 := Lib.hid (one_trans HG.out hg2)
    clear hs2 hg2
    go_wp2_with fail
    go_ret
    exact clPost_sgl _ HS2.out HG2.out
  · obtain rfl : (Cl.dot, c + 1) = R := by simpa using hR
    clear hR hzb h
    go_enter Tryf.func30, Tryf.ntmps30
    go_wp2_with fail
    refine HN.out.mono ?_
    rintro e w1 ⟨rfl, hs1, hg1⟩
    have HS := Lib.hid hs1
    have HG := Lib.hid hg1
    clear hs1 hg1
    go_wp2_with fail
    go_ret
    exact clPost_dot HS.out HG.out _ _
  · have hR' : parseSet zs (c + 1) = some R := by simpa using hR
    have HR := Lib.hid hR'
    clear hR hR' hzb h
    go_enter Tryf.func30, Tryf.ntmps30
    go_wp2_with fail
    refine HN.out.mono ?_
    rintro e w1 ⟨rfl, hs1, hg1⟩
    have HS := Lib.hid hs1
    have HG := Lib.hid hg1
    clear hs1 hg1
    go_wp2_with fail
    refine (parseSet_any HS.out (by omega) hl HR.out).mono ?_
    rintro e w2 ⟨T, a, rfl, hcl, hs2, hg2⟩
    have HC := Lib.hid hcl
    have HS2 := Lib.hid hs2
    have HG2 := Lib.hid (one_trans HG.out hg2)
    have HZ := Lib.hid HG.out.size
    clear hcl hs2 hg2
    go_wp2_with fail
    go_ret
    exact ⟨_, _, rfl, HC.out.kept (fun _ _ _ h => h) (fun k _ hk => Nat.lt_of_lt_of_le hk HZ.out), HS2.out, HG2.out⟩
  · obtain rfl : (Cl.el (.chr z), c + 1) = R := by
      rw [if_neg (by simp at n1; omega), if_neg (by simp at n2; omega), if_neg (by simp at n3; omega)] at hR
      simpa using hR
    clear hR hzb h
    go_enter Tryf.func30, Tryf.ntmps30
    go_wp2_with fail
    refine HN.out.mono ?_
    rintro e w1 ⟨rfl, hs1, hg1⟩
    have HS := Lib.hid hs1
    have HG := Lib.hid hg1
    clear hs1 hg1
    go_wp2_with fail
    go_ret
    exact clPost_chr _ HS.out HG.out
end

end Go.Proofs.YtcfhhcjcnafcjaaFmt
