/-
  The contracts of the reference's reader of bytes and of its choice of a class letter. Conditions as each states.
-/
import Derived.Test.YtcfhhcjcnafcjaaFmtTk
import Derived.Test.YtcfhhcjcnafcjaaFmtScan2
import Derived.BigQuiet
namespace Go.Proofs.YtcfhhcjcnafcjaaFmt
open Go.RowKit
set_option linter.unusedVariables false
set_option linter.unusedSimpArgs false

set_option maxHeartbeats 1000000 in
theorem more_any {w : World} {B r : Nat} (h : RdAt w B r) : Calls Tryf.prog 12 #[.pointer (some ⟨r, 0, none⟩)] w fun e w' => ∃ b n, e = .returned (.bool b) ∧ w' = w.drewN n := by
  obtain ⟨a, zs, cap, i, hb, -⟩ := h
  have k0 := blk_cell hb 0 _ rfl
  have k1 := blk_cell hb 1 _ rfl
  clear hb
  go_enter Tryf.func12, Tryf.ntmps12
  go_wp2_with fail
  go_quiet (fail)
  generalize hwd : World.drewN w _ = wd
  have HQ : Hid (∃ q, wd = w.drewN q) := by subst hwd; exact Lib.hid ⟨_, rfl⟩
  clear hwd
  go_wp2_with fail
  go_ret
  obtain ⟨q, hq⟩ := HQ.out
  exact ⟨_, q, rfl, hq⟩
set_option maxHeartbeats 1000000 in
theorem next_rd {w : World} {B r : Nat} (h : RdAt w B r) : Calls Tryf.prog 11 #[.pointer (some ⟨r, 0, none⟩)] w fun e w' => ∃ v : Nat, v ≤ 255 ∧ e = .returned (.int .i64 (v : Int)) ∧ RdAt w' B r ∧ w.grownBy w' (some r) := by
  obtain ⟨a, zs, cap, i, hb, hrow, hlt, hby, hln, hBr, hil⟩ := h
  have k0 := blk_cell hb 0 _ rfl
  have k1 := blk_cell hb 1 _ rfl
  have f1 := blk_free hb 1
  have HBK := Lib.hid hb
  have HROW := Lib.hid hrow
  have HLT := Lib.hid hlt
  have HBY := Lib.hid hby
  clear hrow hlt hby hb
  by_cases hi : i < zs.length
  · obtain ⟨sb, so, rfl, hsc⟩ := HROW.out (by omega)
    obtain ⟨v, hv, hv2⟩ : ∃ v : Nat, zs.getD i 0 = (v : Int) ∧ v ≤ 255 := by
      have hm : zs.getD i 0 ∈ zs := by rw [List.getD_eq_getElem?_getD, List.getElem?_eq_getElem hi]; exact List.getElem_mem hi
      have := HBY.out _ hm
      exact ⟨(zs.getD i 0).toNat, by omega, by omega⟩
    have kc := hsc i hi
    rw [hv] at kc
    have hii : (i : Int) < (zs.length : Int) := by omega
    have tl : decide ((zs.length : Int) ≤ (i : Int)) = false := decide_eq_false (by omega)
    have tl2 : decide (zs.length ≤ i) = false := decide_eq_false (by omega)
    have hsb : sb ≠ r := by have := HLT.out _ rfl; simp only at this; omega
    clear hv hsc
    go_enter Tryf.func11, Tryf.ntmps11
    go_wp2_with fail
    go_quiet (fail)
    generalize hwd : World.drewN w _ = wd
    have HBd : Hid (wd.heap[r]? = some (.cells #[.slice (some ⟨sb, so, none⟩) zs.length cap, .int .i64 (i : Int)] 50 (0, 0))) := by subst hwd; exact HBK
    have HRd : Hid (RowInt .u8 wd (some ⟨sb, so, none⟩) zs) := by subst hwd; exact HROW
    have HGd : Hid (w.grownBy wd (some r)) := by subst hwd; exact Lib.hid (one_drewN (one_refl w _) _)
    have kc2 : wd.cell? ⟨sb, so + i, none⟩ = some (.int .u8 (v : Int)) := by subst hwd; exact kc
    clear hwd kc k0 k1 f1
    have k0 := blk_cell HBd.out 0 _ rfl
    have k1 := blk_cell HBd.out 1 _ rfl
    have f1 := blk_free HBd.out 1
    go_wp2_with fail
    go_quiet (fail)
    generalize hwe : World.drewN wd _ = we
    have HBe : Hid (we.heap[r]? = some (.cells #[.slice (some ⟨sb, so, none⟩) zs.length cap, .int .i64 (i : Int)] 50 (0, 0))) := by subst hwe; exact HBd
    have HRe : Hid (RowInt .u8 we (some ⟨sb, so, none⟩) zs) := by subst hwe; exact HRd
    have HGe : Hid (w.grownBy we (some r)) := by subst hwe; exact Lib.hid (one_drewN HGd.out _)
    clear hwe kc2 k0 k1 f1
    have k1 := blk_cell HBe.out 1 _ rfl
    have f1 := blk_free HBe.out 1
    go_wp2_with fail
    go_ret
    have hset := blk_set HBe.out 1 (.int .i64 ((i : Int) + 1))
    refine ⟨v, hv2, rfl, ⟨some ⟨sb, so, none⟩, zs, cap, i + 1, hset, fun h0 => ?_, HLT.out, HBY.out, hln, hBr, by omega⟩, one_setCell HGe.out (.inl rfl) _⟩
    obtain ⟨sb2, so2, e, hc⟩ := HRe.out h0
    exact ⟨sb2, so2, e, fun j hj => (World.cell?_of_block (Below.heap_setCell _ _ _ _ (by injection e with e; injection e with e; subst e; exact hsb))).trans (hc j hj)⟩
  · have tl : decide ((zs.length : Int) ≤ (i : Int)) = true := decide_eq_true (by omega)
    have tl2 : decide (zs.length ≤ i) = true := decide_eq_true (by omega)
    go_enter Tryf.func11, Tryf.ntmps11
    go_wp2_with fail
    go_quiet (fail)
    generalize hwd : World.drewN w _ = wd
    have HBd : Hid (wd.heap[r]? = some (.cells #[.slice a zs.length cap, .int .i64 (i : Int)] 50 (0, 0))) := by subst hwd; exact HBK
    have HRd : Hid (RowInt .u8 wd a zs) := by subst hwd; exact HROW
    have HGd : Hid (w.grownBy wd (some r)) := by subst hwd; exact Lib.hid (one_drewN (one_refl w _) _)
    clear hwd
    go_wp2_with fail
    go_ret
    exact ⟨0, by omega, rfl, ⟨a, zs, cap, i, HBd.out, HRd.out, HLT.out, HBY.out, hln, hBr, hil⟩, HGd.out⟩

/-- The letter behind '%'. -/
def pickZ (k : Nat) : Int := picks.getD (k % 32) 0
theorem pick_mem (k : Nat) : pickZ k ∈ picks := by
  have h : k % 32 < picks.length := Nat.mod_lt _ (by decide)
  unfold pickZ
  rw [List.getD_eq_getElem?_getD, List.getElem?_eq_getElem h]
  exact List.getElem_mem h
def str20 : ByteArray := ⟨#[97, 99, 100, 108, 112, 115, 117, 119, 120, 122, 65, 67, 68, 76, 80, 83, 85, 87, 88, 90]⟩
def str12 : ByteArray := ⟨#[46, 37, 40, 41, 91, 93, 42, 43, 45, 63, 94, 36]⟩
set_option maxHeartbeats 1000000 in
theorem pick_any (k : Nat) (hk : k ≤ 255) (w : World) : Calls Tryf.prog 22 #[.int .i64 (k : Int)] w fun e w' => e = .returned (.int .u8 (pickZ k)) ∧ w = w' := by
  have hm : (Int.tmod (k : Int) 32) = ((k % 32 : Nat) : Int) := by rw [Int.tmod_eq_emod_of_nonneg (by omega)]; omega
  obtain ⟨m, hm2⟩ : ∃ m, k % 32 = m := ⟨_, rfl⟩
  have hml : m < 32 := by omega
  have hp : pickZ k = picks.getD m 0 := by unfold pickZ; rw [hm2]
  rw [hm2] at hm
  rw [hp]
  clear hp hm2
  have hcase : m = 0 ∨ m = 1 ∨ m = 2 ∨ m = 3 ∨ m = 4 ∨ m = 5 ∨ m = 6 ∨ m = 7 ∨ m = 8 ∨ m = 9 ∨ m = 10 ∨ m = 11 ∨ m = 12 ∨ m = 13 ∨ m = 14 ∨ m = 15 ∨ m = 16 ∨ m = 17 ∨ m = 18 ∨ m = 19 ∨ m = 20 ∨ m = 21 ∨ m = 22 ∨ m = 23 ∨ m = 24 ∨ m = 25 ∨ m = 26 ∨ m = 27 ∨ m = 28 ∨ m = 29 ∨ m = 30 ∨ m = 31 := by omega
  clear hml
  rcases hcase with rfl | rfl | rfl | rfl | rfl | rfl | rfl | rfl | rfl | rfl | rfl | rfl | rfl | rfl | rfl | rfl | rfl | rfl | rfl | rfl | rfl | rfl | rfl | rfl | rfl | rfl | rfl | rfl | rfl | rfl | rfl | rfl
  all_goals
    go_enter Tryf.func22, Tryf.ntmps22
    go_wp2
    go_ret
    exact ⟨rfl, rfl⟩
end Go.Proofs.YtcfhhcjcnafcjaaFmt
