/-
  The contract of MatchData's addPosCapture. Its conditions: a slot up to 2^30, a row of fewer than 2^31 words.
-/
import Derived.Test.YtfobgfmejfbanaaMatch
import Derived.Deep.LoopGhost
namespace Go.Proofs.Ytfobgfmejfbanaa
open Go.RowKit
set_option linter.unusedVariables false
set_option linter.unusedSimpArgs false

set_option maxHeartbeats 1000000 in
theorem addPos_any {w : World} {m cap s : Nat} {ao : Option Addr} {us : List Int} (p : Int) (h : MD w m ao cap us) (hs : s ≤ 1073741824) :
    Calls Try.prog 28 #[.pointer (some ⟨m, 0, none⟩), .int .i64 (s : Int), .int .i64 p] w fun e w' => e = .returned (.tuple #[]) ∧ ∃ ao' cap', MD w' m ao' cap' (((ext us (s + 2)).set s (posW p)).set (s + 1) (posW p)) ∧ Moved w w' m ao ao' := by
  obtain ⟨i0, hi, hz0, hz1, hz2⟩ := info_parts u32_info
  have H := Lib.hid h
  clear h
  go_enter Try.func28, Try.ntmps28
  go_wp2_with fail
  go_loopg [] (s + 2 - us.length) (fun k wr => ∃ ao' cap' vs, k = s + 2 - vs.length ∧ us.length ≤ vs.length ∧ ext vs (s + 2) = ext us (s + 2) ∧ MD wr m ao' cap' vs ∧ Moved w wr m ao ao')
  case atStart => exact ⟨ao, cap, us, rfl, Nat.le_refl _, rfl, H.out, Moved.refl _ _ _⟩
  case round =>
    obtain ⟨ao', cap', vs, rfl, hle, hext, hmd, hmv⟩ := hrel
    have HM := Lib.hid hmd
    have HV := Lib.hid hmv
    have HX := Lib.hid hext
    have hlen := hmd.len
    have g0 : wr.cell? ⟨m, 0, none⟩ = some (.slice ao' vs.length cap') := blk_cell hmd.blk 0 _ rfl
    have HW := Lib.hid (hmd.own.alloc (.cells #[.int .u32 0] 29))
    clear hmd hmv hext
    by_cases hlt : vs.length < s + 2
    · go_wp2_with (at_builtin; refine wpList_push _ rfl (.tmp 18) (.tmp 19) 22 rfl 0 29 i0 (.int .u32 0) 1 4 Try.underlying22 hi hz0 hz1 hz2 rfl (by decide) _ _ _ _ rfl HW.out ⟨wr.heap.size, 0, none⟩ 1 1 [.int .u32 0] rfl rfl (cell_one_new _ _ _) (fun u hu => by simp at hu; subst hu; rfl) (by decide) (by unfold maxLen; omega) (by omega) (Nat.zero_le _) ?_; intro g1 c1 w1 hown' hgrow hwhere; have hmid := HM.out.mid hgrow; have k0 := blk_cell hmid 0 _ rfl; have k1 := blk_free hmid 0; have HO := Lib.hid hown'; have HG := Lib.hid hgrow; have HWh := Lib.hid hwhere; clear hown' hgrow hwhere hmid)
      have HR := HM.out.grow (by omega) HO.out HG.out (by rcases HWh.out with h | h; exact .inl h; exact .inr (by simp at h; omega))
      go_roundg (s + 2 - (vs ++ [(0 : Int)]).length)
      case measure => simp; omega
      case rel => exact ⟨_, _, vs ++ [0], rfl, by simp; omega, (ext_snoc hlt).trans HX.out, HR.1, HV.out.trans HR.2⟩
    · obtain ⟨g, rfl, hne, hglt⟩ := HM.out.row (by omega)
      have hc1 := HM.out.cell s (by omega)
      have hc2 := HM.out.cell (s + 1) (by omega)
      have hf1 := HM.out.free s
      have hf2 := HM.out.free (s + 1)
      have hs1 : (s : Int) < vs.length := by omega
      have hs2 : (s : Int) + 1 < vs.length := by omega
      clear HW
      obtain ⟨u1, hu1⟩ : ∃ u, u = vs.getD s 0 := ⟨_, rfl⟩
      obtain ⟨u2, hu2⟩ : ∃ u, u = vs.getD (s + 1) 0 := ⟨_, rfl⟩
      rw [← hu1] at hc1
      rw [← hu2] at hc2
      have hw := posW_eq p
      have HP := Lib.hid hw
      clear hu1 hu2 hw
      go_wp2
      rw [HP.out]
      go_end0
      have hvs : vs = ext us (s + 2) := by rw [← HX.out, ext_same (by omega)]
      have S1 := HM.out.store s (posW p) (by omega) (posW_bd p)
      have S2 := S1.1.store (s + 1) (posW p) (by rw [List.length_set]; omega) (posW_bd p)
      rw [← hvs]
      exact ⟨rfl, _, _, S2.1, HV.out.trans (S1.2.trans S2.2)⟩

end Go.Proofs.Ytfobgfmejfbanaa
