/-
  The contract of parseClass inside a set: one element. Its condition: the scanner is not at its end.
-/
import Derived.Test.YtcfhhcjcnafcjaaFmtSetM
import Derived.Deep.RegionHeld3
import Derived.Deep.AppendLies
namespace Go.Proofs.YtcfhhcjcnafcjaaFmt
open Go.RowKit
set_option linter.unusedVariables false
set_option linter.unusedSimpArgs false

section
variable {w : World} {b : Nat} {ao : Option Addr} {cap : Nat} {zs : List Int} {c s : Nat}

theorem Scan.grownAlloc {w' : World} (h : Scan w' b ao cap zs c s) (o : Obj) : Scan (w'.alloc o) b ao cap zs c s :=
  h.kept (row := none) (one_alloc (one_refl w' none) o) (by simp) (by simp)
theorem Scan.lt {w : World} (h : Scan w b ao cap zs c s) : b < w.heap.size := blk_lt h.blk
theorem chr_mem {zs : List Int} (hb : ∀ z, z ∈ zs → 0 ≤ z ∧ z ≤ 255) {c : Nat} (hc : c < zs.length) : 0 ≤ chr zs c ∧ chr zs c ≤ 255 := by
  unfold chr; rw [if_pos hc]; exact getD_byte hb c
theorem next_at (h : Scan w b ao cap zs c s) (hc : c ≤ zs.length) {z : Int} (hz : chr zs c = z) :
    Calls Tryf.prog 25 #[.pointer (some ⟨b, 0, none⟩)] w fun e w' => e = .returned (.int .i64 z) ∧ Scan w' b ao cap zs (c + 1) s ∧ w.grownBy w' (some b) :=
  (next_any h).mono fun e w' ⟨h1, h2, h3⟩ => ⟨by rw [← hz]; exact h1, by rw [show min (c + 1) (zs.length + 1) = c + 1 by omega] at h2; exact h2, h3⟩
theorem next_top (h : Scan w b ao cap zs c s) (hc : zs.length ≤ c) :
    Calls Tryf.prog 25 #[.pointer (some ⟨b, 0, none⟩)] w fun e w' => e = .returned (.int .i64 (-1)) ∧ Scan w' b ao cap zs (zs.length + 1) s ∧ w.grownBy w' (some b) :=
  (next_any h).mono fun e w' ⟨h1, h2, h3⟩ => ⟨by rw [h1]; unfold chr; rw [if_neg (by omega)], by have := h.cb; rw [show min (c + 1) (zs.length + 1) = zs.length + 1 by omega] at h2; exact h2, h3⟩
theorem peek_at (h : Scan w b ao cap zs c s) (h0 : 0 < zs.length) {z : Int} (hz : chr zs c = z) :
    Calls Tryf.prog 24 #[.pointer (some ⟨b, 0, none⟩)] w fun e w' => e = .returned (.int .i64 z) ∧ Scan w' b ao cap zs c s ∧ w.grownBy w' (some b) :=
  (peek_any h).mono fun e w' ⟨h1, h2, h3⟩ => ⟨by rw [← hz]; exact h1, by rw [show peekC zs.length c = c by unfold peekC; rw [if_neg (by omega)]] at h2; exact h2, h3⟩

/-- What the parser of one element leaves. -/
def ElPost (w : World) (b : Nat) (ao : Option Addr) (cap : Nat) (zs : List Int) (s : Nat) (r : El × Nat) (e : Ending) (w' : World) : Prop :=
  ∃ T a, e = .returned (.iface T (.pointer a)) ∧ ElAt (fun k => k < w.heap.size) w' r.1 (.iface T (.pointer a)) ∧ Scan w' b ao cap zs r.2 s ∧ w.grownBy w' (some b)

theorem elPost_chr {w w1 : World} (z : Int) {c' : Nat} (hs : Scan w1 b ao cap zs c' s) (hg : w.grownBy w1 (some b)) :
    ElPost w b ao cap zs s (.chr z, c') (.returned (.iface 112 (.pointer (some ⟨w1.heap.size, 0, none⟩)))) (w1.alloc (.cells #[.int .i64 z] 114)) :=
  ⟨_, _, rfl, ⟨w1.heap.size, rfl, by have := hg.size; omega, blk_new _ _⟩, hs.grownAlloc _, one_alloc hg _⟩
theorem elPost_sgl {w w1 : World} (z : Int) {c' : Nat} (hs : Scan w1 b ao cap zs c' s) (hg : w.grownBy w1 (some b)) :
    ElPost w b ao cap zs s (.sgl z, c') (.returned (.iface 132 (.pointer (some ⟨w1.heap.size, 0, none⟩)))) (w1.alloc (.cells #[.int .i64 z] 134)) :=
  ⟨_, _, rfl, ⟨w1.heap.size, rfl, by have := hg.size; omega, blk_new _ _⟩, hs.grownAlloc _, one_alloc hg _⟩

set_option maxHeartbeats 1000000 in
theorem parseEl_any (h : Scan w b ao cap zs c s) (hc : c < zs.length) :
    Calls Tryf.prog 30 #[.pointer (some ⟨b, 0, none⟩), .bool false] w (ElPost w b ao cap zs s (elem zs c)) := by
  have hzb := chr_mem h.byte hc
  have HN := Lib.hid (next_at h (by omega) rfl)
  obtain ⟨z, hz⟩ : ∃ z, chr zs c = z := ⟨_, rfl⟩
  rw [hz] at HN hzb
  have hz0 := hzb.1
  rcases (show z = 37 ∨ z = 46 ∨ z = 91 ∨ ((z == 37) = false ∧ (z == 46) = false ∧ (z == 91) = false ∧ (z == -1) = false) by simp; omega) with rfl | rfl | rfl | ⟨n1, n2, n3, n4⟩
  · have he : elem zs c = (.sgl (chr zs (c + 1)), c + 2) := by unfold elem; rw [if_pos hz]
    rw [he]
    clear he hz hzb h
    go_enter Tryf.func30, Tryf.ntmps30
    go_wp2_with fail
    refine HN.out.mono ?_
    rintro e w1 ⟨rfl, hs1, hg1⟩
    have HS := Lib.hid hs1
    have HG := Lib.hid hg1
    clear hs1 hg1
    go_wp2_with fail
    refine (next_at HS.out (by omega) rfl).mono ?_
    rintro e w2 ⟨rfl, hs2, hg2⟩
    have HS2 := Lib.hid hs2
    have HG2 := Lib.hid (one_trans HG.out hg2)
    clear hs2 hg2
    go_wp2_with fail
    go_ret
    exact elPost_sgl _ HS2.out HG2.out
  · have he : elem zs c = (.chr 46, c + 1) := by unfold elem; rw [if_neg (by omega), hz]
    rw [he]
    clear he hz hzb h
    go_enter Tryf.func30, Tryf.ntmps30
    go_wp2_with fail
    refine HN.out.mono ?_
    rintro e w1 ⟨rfl, hs1, hg1⟩
    have HS := Lib.hid hs1
    have HG := Lib.hid hg1
    clear hs1 hg1
    go_wp2_with fail
    go_ret
    exact elPost_chr _ HS.out HG.out
  · have he : elem zs c = (.chr 91, c + 1) := by unfold elem; rw [if_neg (by omega), hz]
    rw [he]
    clear he hz hzb h
    go_enter Tryf.func30, Tryf.ntmps30
    go_wp2_with fail
    refine HN.out.mono ?_
    rintro e w1 ⟨rfl, hs1, hg1⟩
    have HS := Lib.hid hs1
    have HG := Lib.hid hg1
    clear hs1 hg1
    go_wp2_with fail
    go_ret
    exact elPost_chr _ HS.out HG.out
  · have he : elem zs c = (.chr z, c + 1) := by unfold elem; rw [if_neg (by simp at n1; omega), hz]
    rw [he]
    clear he hz hzb h
    go_enter Tryf.func30, Tryf.ntmps30
    go_wp2_with fail
    refine HN.out.mono ?_
    rintro e w1 ⟨rfl, hs1, hg1⟩
    have HS := Lib.hid hs1
    have HG := Lib.hid hg1
    clear hs1 hg1
    go_wp2_with fail
    go_ret
    exact elPost_chr _ HS.out HG.out
end

end Go.Proofs.YtcfhhcjcnafcjaaFmt
