/-
  Calls of compilePattern over one item: a class, a back-reference, a balanced match, a position capture, a capture, a sequence. Conditions as each statement says.
-/
import Derived.Test.YtcfhhcjcnafcjaaFmtCompAll
namespace Go.Proofs.YtcfhhcjcnafcjaaFmt
open Go.RowKit
set_option linter.unusedVariables false
set_option linter.unusedSimpArgs false


set_option maxHeartbeats 4000000 in
set_option maxRecDepth 1000000 in
theorem cp_one (c : Cl) : CompSpec (.one c) := by
  intro w v m g ao cap I k xs I' k' hc hp hg hr hl hk
  obtain ⟨i0, hi, hz0, hz1, hz2⟩ := info_parts inst_info
  cases hp with
  | @one _ b vc _ _ hb1 hb2 hcl hnil =>
  cases hnil
  cases hr with
  | one hr =>
  cases hr
  obtain ⟨Tv, pv, rfl⟩ := hcl.iface
  have hlI : I.length + 1 ≤ 16777216 := by simpa using hl
  have HCL := Lib.hid hcl
  have kb := blk_cell hb2 0 _ rfl
  have HC := Lib.hid hc
  have HB := Lib.hid hc.blk
  have HRW := Lib.hid hc.row
  have k0 := blk_cell hc.blk 0 _ rfl
  have f0 := blk_free hc.blk 0
  have n0 : ∀ o, (w.alloc o).cell? ⟨m, 0, none⟩ = some (.slice ao I.length cap) := fun o => blk_cell (blk_alloc HB.out o) 0 _ rfl
  clear hc hcl hb1 hb2 hl
  go_enter Tryf.func20, Tryf.ntmps20
  go_wp2_with fail
  go_region_law ((refine step_append_lies _ (by rfl) _ _ _ (by rfl) 0 123 i0 _ 4 40 Tryf.underlying70 hi hz0 hz1 hz2 rfl (by omega) (.slice ao I.length cap) I.length xs (by rfl) ((HC.out.own.alloc _).drew) ⟨w.heap.size, 0, none⟩ 1 1 [.int .i64 0, .iface Tv (.pointer pv), .int .i64 (-1), .int .i64 (-1)] (by rfl) (by rfl) (news_nd (by simp)) (by simp [Value.oneCell']) (by omega) (by unfold maxLen; omega) (by omega) (by omega) (w.heap.size + 1) (by simp) ?_; intro g1 c1 w8 hown hgrow hat hlt8; have HO' := Lib.hid hown; have HGw := Lib.hid hgrow; have HAt := Lib.hid hat; clear hown hgrow hat hlt8; have hb8 := blk_grown (blk_drew (blk_alloc HB.out _)) HGw.out (fun e => by have := HRW.out _ (by rw [ownBlock_slice] at e; exact e.symm); omega); have k8 : w8.cell? ⟨m, 0, none⟩ = some (.slice ao I.length cap) := blk_cell hb8 0 _ rfl; have f8 : w8.frozen? ⟨m, 0, none⟩ = false := blk_free hb8 0; clear hb8))
  all_goals
    go_wp2_with fail
    have hpush := comp_push (n := 1) (J := [.chr c]) (Moved.drew ((Moved.refl w m ao).alloc (.cells (List.toArray [.int .i64 0, .iface Tv (.pointer pv), .int .i64 (-1), .int .i64 (-1)]) 123))) (comp_drew (HC.out.alloc _)) (InssAt.one (.chr (HCL.out.kept (fun k' o' _ ho => blk_drew (blk_alloc ho _)) (fun _ _ h => h)))) rfl HGw.out HO'.out HAt.out
    have k9 := blk_cell hpush.1.blk 0 _ rfl
    have HP := Lib.hid hpush
    clear hpush
    go_wp2_with fail
    go_ret
    exact compPost_mk (by simp) HP.out.1 HP.out.2



set_option maxHeartbeats 4000000 in
set_option maxRecDepth 1000000 in
theorem cp_num (z : Int) : CompSpec (.num z) := by
  intro w v m g ao cap I k xs I' k' hc hp hg hr hl hk
  obtain ⟨i0, hi, hz0, hz1, hz2⟩ := info_parts inst_info
  cases hp with
  | @num _ b _ _ hb1 hb2 hnil =>
  cases hnil
  cases hr with
  | num hr =>
  cases hr
  have hlI : I.length + 1 ≤ 16777216 := by simpa using hl
  have kb := blk_cell hb2 0 _ rfl
  have HC := Lib.hid hc
  have HB := Lib.hid hc.blk
  have HRW := Lib.hid hc.row
  have k0 := blk_cell hc.blk 0 _ rfl
  have f0 := blk_free hc.blk 0
  have n0 : ∀ o, (w.alloc o).cell? ⟨m, 0, none⟩ = some (.slice ao I.length cap) := fun o => blk_cell (blk_alloc HB.out o) 0 _ rfl
  clear hc hb1 hb2 hl
  go_enter Tryf.func20, Tryf.ntmps20
  go_wp2_with fail
  go_region_law ((refine step_append_lies _ (by rfl) _ _ _ (by rfl) 0 123 i0 _ 4 40 Tryf.underlying70 hi hz0 hz1 hz2 rfl (by omega) (.slice ao I.length cap) I.length xs (by rfl) ((HC.out.own.alloc _).drew) ⟨w.heap.size, 0, none⟩ 1 1 [.int .i64 8, .nilIface, .int .i64 z, .int .i64 (-1)] (by rfl) (by rfl) (news_nd (by simp)) (by simp [Value.oneCell']) (by omega) (by unfold maxLen; omega) (by omega) (by omega) (w.heap.size + 1) (by simp) ?_; intro g1 c1 w8 hown hgrow hat hlt8; have HO' := Lib.hid hown; have HGw := Lib.hid hgrow; have HAt := Lib.hid hat; clear hown hgrow hat hlt8; have hb8 := blk_grown (blk_drew (blk_alloc HB.out _)) HGw.out (fun e => by have := HRW.out _ (by rw [ownBlock_slice] at e; exact e.symm); omega); have k8 : w8.cell? ⟨m, 0, none⟩ = some (.slice ao I.length cap) := blk_cell hb8 0 _ rfl; have f8 : w8.frozen? ⟨m, 0, none⟩ = false := blk_free hb8 0; clear hb8))
  all_goals
    go_wp2_with fail
    have hpush := comp_push (n := 1) (J := [.num z]) (Moved.drew ((Moved.refl w m ao).alloc (.cells (List.toArray [.int .i64 8, .nilIface, .int .i64 z, .int .i64 (-1)]) 123))) (comp_drew (HC.out.alloc _)) (InssAt.one .num) rfl HGw.out HO'.out HAt.out
    have k9 := blk_cell hpush.1.blk 0 _ rfl
    have HP := Lib.hid hpush
    clear hpush
    go_wp2_with fail
    go_ret
    exact compPost_mk (by simp) HP.out.1 HP.out.2



set_option maxHeartbeats 4000000 in
set_option maxRecDepth 1000000 in
theorem cp_brace (y z : Int) : CompSpec (.brace y z) := by
  intro w v m g ao cap I k xs I' k' hc hp hg hr hl hk
  obtain ⟨i0, hi, hz0, hz1, hz2⟩ := info_parts inst_info
  cases hp with
  | @brace _ _ b _ _ hb1 hb2 hnil =>
  cases hnil
  cases hr with
  | brace hr =>
  cases hr
  have hlI : I.length + 1 ≤ 16777216 := by simpa using hl
  have kb := blk_cell hb2 0 _ rfl
  have kb1 := blk_cell hb2 1 _ rfl
  have HC := Lib.hid hc
  have HB := Lib.hid hc.blk
  have HRW := Lib.hid hc.row
  have k0 := blk_cell hc.blk 0 _ rfl
  have f0 := blk_free hc.blk 0
  have n0 : ∀ o, (w.alloc o).cell? ⟨m, 0, none⟩ = some (.slice ao I.length cap) := fun o => blk_cell (blk_alloc HB.out o) 0 _ rfl
  clear hc hb1 hb2 hl
  go_enter Tryf.func20, Tryf.ntmps20
  go_wp2_with fail
  go_region_law ((refine step_append_lies _ (by rfl) _ _ _ (by rfl) 0 123 i0 _ 4 40 Tryf.underlying70 hi hz0 hz1 hz2 rfl (by omega) (.slice ao I.length cap) I.length xs (by rfl) ((HC.out.own.alloc _).drew) ⟨w.heap.size, 0, none⟩ 1 1 [.int .i64 7, .nilIface, .int .i64 y, .int .i64 z] (by rfl) (by rfl) (news_nd (by simp)) (by simp [Value.oneCell']) (by omega) (by unfold maxLen; omega) (by omega) (by omega) (w.heap.size + 1) (by simp) ?_; intro g1 c1 w8 hown hgrow hat hlt8; have HO' := Lib.hid hown; have HGw := Lib.hid hgrow; have HAt := Lib.hid hat; clear hown hgrow hat hlt8; have hb8 := blk_grown (blk_drew (blk_alloc HB.out _)) HGw.out (fun e => by have := HRW.out _ (by rw [ownBlock_slice] at e; exact e.symm); omega); have k8 : w8.cell? ⟨m, 0, none⟩ = some (.slice ao I.length cap) := blk_cell hb8 0 _ rfl; have f8 : w8.frozen? ⟨m, 0, none⟩ = false := blk_free hb8 0; clear hb8))
  all_goals
    go_wp2_with fail
    have hpush := comp_push (n := 1) (J := [.brace y z]) (Moved.drew ((Moved.refl w m ao).alloc (.cells (List.toArray [.int .i64 7, .nilIface, .int .i64 y, .int .i64 z]) 123))) (comp_drew (HC.out.alloc _)) (InssAt.one .brace) rfl HGw.out HO'.out HAt.out
    have k9 := blk_cell hpush.1.blk 0 _ rfl
    have HP := Lib.hid hpush
    clear hpush
    go_wp2_with fail
    go_ret
    exact compPost_mk (by simp) HP.out.1 HP.out.2



set_option maxHeartbeats 4000000 in
set_option maxRecDepth 1000000 in
theorem cp_pos : CompSpec (.pos) := by
  intro w v m g ao cap I k xs I' k' hc hp hg hr hl hk
  obtain ⟨i0, hi, hz0, hz1, hz2⟩ := info_parts inst_info
  cases hp with
  | @pos b _ _ hnil =>
  cases hnil
  cases hr with
  | pos hr =>
  cases hr
  have hlI : I.length + 1 ≤ 16777216 := by simpa using hl
  have kk := blk_cell hc.blk 1 _ rfl
  have HC := Lib.hid hc
  have HB := Lib.hid hc.blk
  have HRW := Lib.hid hc.row
  have k0 := blk_cell hc.blk 0 _ rfl
  have f0 := blk_free hc.blk 0
  have n0 : ∀ o, (w.alloc o).cell? ⟨m, 0, none⟩ = some (.slice ao I.length cap) := fun o => blk_cell (blk_alloc HB.out o) 0 _ rfl
  have n1 : ∀ o, (w.alloc o).cell? ⟨m, 1, none⟩ = some (.int .i64 k) := fun o => blk_cell (blk_alloc HB.out o) 1 _ rfl
  clear hc hl
  go_enter Tryf.func20, Tryf.ntmps20
  go_wp2_with fail
  go_region_law ((refine step_append_lies _ (by rfl) _ _ _ (by rfl) 0 123 i0 _ 4 40 Tryf.underlying70 hi hz0 hz1 hz2 rfl (by omega) (.slice ao I.length cap) I.length xs (by rfl) ((HC.out.own.alloc _).drew) ⟨w.heap.size, 0, none⟩ 1 1 [.int .i64 6, .nilIface, .int .i64 (k : Int), .int .i64 (-1)] (by rfl) (by rfl) (news_nd (by simp)) (by simp [Value.oneCell']) (by omega) (by unfold maxLen; omega) (by omega) (by omega) (w.heap.size + 1) (by simp) ?_; intro g1 c1 w8 hown hgrow hat hlt8; have HO' := Lib.hid hown; have HGw := Lib.hid hgrow; have HAt := Lib.hid hat; clear hown hgrow hat hlt8; have hb8 := blk_grown (blk_drew (blk_alloc HB.out _)) HGw.out (fun e => by have := HRW.out _ (by rw [ownBlock_slice] at e; exact e.symm); omega); have k8 : w8.cell? ⟨m, 0, none⟩ = some (.slice ao I.length cap) := blk_cell hb8 0 _ rfl; have f8 : w8.frozen? ⟨m, 0, none⟩ = false := blk_free hb8 0; clear hb8))
  all_goals
    go_upto_region 33 with (fail)
    have hpush := comp_push (n := 1) (J := [.psave k]) (Moved.drew ((Moved.refl w m ao).alloc (.cells (List.toArray [.int .i64 6, .nilIface, .int .i64 (k : Int), .int .i64 (-1)]) 123))) (comp_drew (HC.out.alloc _)) (InssAt.one .psave) rfl HGw.out HO'.out HAt.out
    have k9 := blk_cell hpush.1.blk 0 _ rfl
    have HP := Lib.hid hpush
    clear hpush
    have k10 := blk_cell HP.out.1.blk 1 _ rfl
    have f10 := blk_free HP.out.1.blk 1
    generalize w8.setCell ⟨m, 0, none⟩ (.slice (some ⟨g1, 0, none⟩) (I.length + 1) c1) = w9 at *
    go_wp2_with fail
    go_ret
    exact compPost_mk (by simp) (comp_k HP.out.1 (by omega)) (HP.out.2.setOwn 1 _)



set_option maxHeartbeats 4000000 in
set_option maxRecDepth 1000000 in
theorem cp_cap (l : List Pt) (ih : SeqSpec l) : CompSpec (.cap l) := by
  intro w v m g ao cap I k xs I' k' hc hp hg hr hl hk
  obtain ⟨i0, hi, hz0, hz1, hz2⟩ := info_parts inst_info
  cases hp with
  | @cap _ b q capq must tail aq us _ _ hb1 hb2 hq1 hq2 hrow hrx hpts hnil =>
  cases hnil
  cases hr with
  | @cap _ _ _ _ I1 k1 _ _ hr1 hr =>
  cases hr
  have hgr := hr1.grows
  have hl1 : I.length + 1 ≤ I1.length := by have := hgr.1; simpa using this
  have hl2 : I1.length + 1 ≤ 16777216 := by simpa using hl
  have hk1 : k + 2 ≤ k' := hgr.2
  have hl0 : I.length ≤ 16777216 := by omega
  have HC := Lib.hid hc
  have HR1 := Lib.hid hr1
  have HQ2 := Lib.hid hq2
  have HQ1 := Lib.hid hq1
  have HROW := Lib.hid hrow
  have HRX := Lib.hid hrx
  have HPTS := Lib.hid hpts
  have HB2 := Lib.hid hb2
  have HB1 := Lib.hid hb1
  have IH := Lib.hid ih
  have k0 := blk_cell hc.blk 0 _ rfl
  have kk : w.cell? ⟨m, 1, none⟩ = some (.int .i64 k) := blk_cell hc.blk 1 _ rfl
  have wr1 : IntKind.i64.wrap ((k : Int) + 1) = (k : Int) + 1 := by rw [IntWalk.i64_in _ (by omega)]
  clear hc hr1 hq1 hq2 hrow hrx hpts hb1 hb2 hgr hl ih
  go_enter Tryf.func20, Tryf.ntmps20
  go_wp2_with fail
  go_quiet (fail)
  generalize hwd : World.drewN w _ = wd
  have HC1 : Hid (CompO wd m ao cap I k xs) := by subst hwd; exact Lib.hid (HC.out.drewN _)
  have HM1 : Hid (Moved w wd m ao ao) := by subst hwd; exact Lib.hid ((Moved.refl w m ao).drewN _)
  clear hwd k0 kk wr1 hg
  have k0 := blk_cell HC1.out.blk 0 _ rfl
  have kk : wd.cell? ⟨m, 1, none⟩ = some (.int .i64 k) := blk_cell HC1.out.blk 1 _ rfl
  have f1 := blk_free HC1.out.blk 1
  go_upto_region 38 with (fail)
  have HC2 := Lib.hid (comp_k HC1.out (k' := k + 2) (z := (k : Int) + 2) (by omega))
  have HM2 := Lib.hid (HM1.out.setOwn 1 (.int .i64 ((k : Int) + 2)))
  generalize wd.setCell ⟨m, 1, none⟩ (.int .i64 ((k : Int) + 2)) = w2 at *
  clear k0 kk f1 HC1 HM1
  have k0 := blk_cell HC2.out.blk 0 _ rfl
  have hrw := HC2.out.row
  have HRW := Lib.hid hrw
  clear hrw
  go_upto_region 39 with (at_builtin; refine wpList_push _ rfl (.tmp 210) (.tmp 213) 70 rfl 0 123 i0 (.agg #[.int .i64 0, .nilIface, .int .i64 0, .int .i64 0]) 4 40 Tryf.underlying70 hi hz0 hz1 hz2 rfl (by decide) ao I.length cap xs rfl (HC2.out.own.alloc _) ⟨w2.heap.size, 0, none⟩ 1 1 [.int .i64 5, .nilIface, .int .i64 k, .int .i64 (-1)] rfl rfl (news_n rfl) (by simp [Value.oneCell']) (by decide) (by unfold maxLen; omega) (by omega) (Nat.zero_le _) ?_; intro g1 c1 w8 hown hgrow hwhere; have HO' := Lib.hid hown; have HGw := Lib.hid hgrow; have HWh := Lib.hid hwhere; clear hown hgrow hwhere; have hb8 := blk_grown (blk_alloc HC2.out.blk _) HGw.out (fun e => by have := HRW.out _ e.symm; omega); have k8 : w8.cell? ⟨m, 0, none⟩ = some (.slice ao I.length cap) := blk_cell hb8 0 _ rfl; have f8 : w8.frozen? ⟨m, 0, none⟩ = false := blk_free hb8 0; clear hb8)
  have hpush := (HC2.out.alloc (.cells #[.int .i64 5, .nilIface, .int .i64 k, .int .i64 (-1)] 123)).push (J := [.save k]) (InssAt.one (i := .save k) .save) rfl HGw.out HO'.out (HWh.out.imp id (fun h => by simpa using h))
  have HC4 := Lib.hid hpush.1
  have HM4 := Lib.hid (HM2.out.trans (((Moved.refl w2 m ao).alloc (.cells #[.int .i64 5, .nilIface, .int .i64 k, .int .i64 (-1)] 123)).trans hpush.2))
  generalize w8.setCell ⟨m, 0, none⟩ (.slice (some ⟨g1, 0, none⟩) (I.length + 1) c1) = w4 at *
  clear hpush k8 f8 HO' HGw HWh HC2 HM2 k0 HRW
  have kb : w4.cell? ⟨b, 0, none⟩ = some (.iface 66 (.pointer (some ⟨q, 0, none⟩))) := blk_cell (HM4.out.keeps b _ HB1.out HB2.out) 0 _ rfl
  go_wp2_with fail
  have HM5 := Lib.hid (HM4.out.alloc (.cells #[.pointer (some ⟨m, 0, none⟩)] 120))
  refine (IH.out (w4.alloc (.cells #[.pointer (some ⟨m, 0, none⟩)] 120)) m w4.heap.size q must tail aq capq us (some ⟨g1, 0, none⟩) c1 (I ++ [.save k]) (k + 2) _ I1 k' (HC4.out.alloc _) (HM5.out.keeps q _ HQ1.out HQ2.out) (HM5.out.notX (blk_lt HQ2.out) HQ1.out) (HM5.out.row0 HROW.out HRX.out)
    (fun gg hgg => HM5.out.notX (owns_lt HROW.out gg hgg).2 (HRX.out gg hgg)) (HM5.out.pts HPTS.out) (blk_cell (blk_new _ _) 0 _ rfl) HR1.out (by omega) (by omega)).mono ?_
  rintro e w6 ⟨ao6, cap6, xs6, rfl, hc6, hm6⟩
  have HC6 := Lib.hid hc6
  have HM6 := Lib.hid (HM5.out.trans hm6)
  clear hc6 hm6 kb HM4 HM5 HC4
  have k0 := blk_cell HC6.out.blk 0 _ rfl
  have hrw := HC6.out.row
  have HRW := Lib.hid hrw
  clear hrw
  go_upto_region 47 with (at_builtin; refine wpList_push _ rfl (.tmp 228) (.tmp 231) 70 rfl 0 123 i0 (.agg #[.int .i64 0, .nilIface, .int .i64 0, .int .i64 0]) 4 40 Tryf.underlying70 hi hz0 hz1 hz2 rfl (by decide) ao6 I1.length cap6 xs6 rfl (HC6.out.own.alloc _) ⟨w6.heap.size, 0, none⟩ 1 1 [.int .i64 5, .nilIface, .int .i64 ((k : Int) + 1), .int .i64 (-1)] rfl rfl (news_n rfl) (by simp [Value.oneCell']) (by decide) (by unfold maxLen; omega) (by omega) (Nat.zero_le _) ?_; intro g1 c1 w8 hown hgrow hwhere; have HO' := Lib.hid hown; have HGw := Lib.hid hgrow; have HWh := Lib.hid hwhere; clear hown hgrow hwhere; have hb8 := blk_grown (blk_alloc HC6.out.blk _) HGw.out (fun e => by have := HRW.out _ e.symm; omega); have k8 : w8.cell? ⟨m, 0, none⟩ = some (.slice ao6 I1.length cap6) := blk_cell hb8 0 _ rfl; have f8 : w8.frozen? ⟨m, 0, none⟩ = false := blk_free hb8 0; clear hb8)
  have hpush := (HC6.out.alloc (.cells #[.int .i64 5, .nilIface, .int .i64 ((k : Int) + 1), .int .i64 (-1)] 123)).push (J := [.save (k + 1)]) (InssAt.one (i := .save (k + 1)) .save) rfl HGw.out HO'.out (HWh.out.imp id (fun h => by simpa using h))
  have HC9 := Lib.hid hpush.1
  have HM9 := Lib.hid (HM6.out.trans (((Moved.refl w6 m ao6).alloc (.cells #[.int .i64 5, .nilIface, .int .i64 ((k : Int) + 1), .int .i64 (-1)] 123)).trans hpush.2))
  generalize w8.setCell ⟨m, 0, none⟩ (.slice (some ⟨g1, 0, none⟩) (I1.length + 1) c1) = w9 at *
  clear hpush k8 f8 HO' HGw HWh HC6 HM6 k0 HRW
  have k9 := blk_cell HC9.out.blk 0 _ rfl
  go_wp2_with fail
  go_ret
  exact compPost_mk (by simp) HC9.out HM9.out



set_option maxHeartbeats 4000000 in
set_option maxRecDepth 1000000 in
theorem cp_seq (l : List Pt) (hall : ∀ p, p ∈ l → CompSpec p) : SeqSpec l := by
  intro w m g q must tail aq capq us ao cap I k xs I' k' hc hq2 hq1 hrow hrx hpts hg hr hl hk
  have HC := Lib.hid hc
  have HR := Lib.hid hr
  have HQ2 := Lib.hid hq2
  have HROW := Lib.hid hrow
  have HRX := Lib.hid hrx
  have HPTS := Lib.hid hpts
  have HALL := Lib.hid hall
  have hlmax : l.length ≤ 9223372036854775807 := by
    rcases hrow.2 with ⟨_, h2⟩ | ⟨g', c, cur, h1, hb, hg, hn, hm, _⟩
    · omega
    · unfold maxLen at hm; omega
  have kq := blk_cell hq2 2 _ rfl
  clear hc hr hq1 hq2 hrow hrx hpts hall
  go_enter Tryf.func20, Tryf.ntmps20
  go_wp2_with fail
  go_loopg [55] l.length (fun j v wr => ∃ i : Nat, j = l.length - i ∧ v = .int .i64 i ∧ i ≤ l.length ∧ Hid (∃ ao2 cap2 I2 k2 xs2, CompO wr m ao2 cap2 I2 k2 xs2 ∧ Moved w wr m ao ao2 ∧ CRun (l.drop i) I2 k2 I' k'))
  case atStart => exact ⟨0, rfl, rfl, Nat.zero_le _, Lib.hid ⟨_, _, _, _, _, HC.out, Moved.refl _ _ _, HR.out⟩⟩
  case round =>
    obtain ⟨i, rfl, rfl, hil, HX⟩ := hrel
    obtain ⟨ao2, cap2, I2, k2, xs2, hc2, hm2, hr2⟩ := HX.out
    clear HX kq hg
    by_cases hlt : i < l.length
    · rw [List.drop_eq_getElem_cons hlt] at hr2
      obtain ⟨I3, k3, hr3, hr4⟩ := hr2.head
      obtain ⟨v, hv, hpv⟩ := HPTS.out.get i hlt
      obtain ⟨gq, rfl⟩ : ∃ gq, aq = some ⟨gq, 0, none⟩ := by
        rcases HROW.out.2 with ⟨_, h2⟩ | ⟨gq, c', cur, h1, _⟩
        · omega
        · simp only [Value.slice.injEq] at h1; exact ⟨gq, h1.1⟩
      have kv : wr.cell? ⟨gq, i, none⟩ = some v := ((hm2.row0 HROW.out HRX.out).cellAt i (by omega)).trans hv
      have hg4 := hr4.grows
      have hlI : I3.length ≤ 16777216 := by omega
      have hlk : k3 ≤ 1073741824 := by omega
      have HM3 := Lib.hid (hm2.alloc (.cells #[.pointer (some ⟨m, 0, none⟩)] 120))
      have HSP : Hid (Calls Tryf.prog 20 #[v, .slice (some ⟨wr.heap.size, 0, none⟩) 1 1] (wr.alloc (.cells #[.pointer (some ⟨m, 0, none⟩)] 120)) (CompPost (wr.alloc (.cells #[.pointer (some ⟨m, 0, none⟩)] 120)) m ao2 I3 k3)) :=
        Lib.hid (HALL.out _ (List.getElem_mem hlt) _ v m wr.heap.size ao2 cap2 I2 k2 xs2 I3 k3 (hc2.alloc _) (HM3.out.pts hpv) (blk_cell (blk_new _ _) 0 _ rfl) hr3 hlI hlk)
      have HR4 := Lib.hid hr4
      clear hr2 hr3 hr4 hv hpv hc2 hm2 hg4 hlI hlk
      go_wp2_with fail
      refine HSP.out.mono ?_
      rintro e w6 ⟨ao6, cap6, xs6, rfl, hc6, hm6⟩
      have HN := Lib.hid (show ∃ ao2 cap2 I2 k2 xs2, CompO w6 m ao2 cap2 I2 k2 xs2 ∧ Moved w w6 m ao ao2 ∧ CRun (l.drop (i + 1)) I2 k2 I' k' from ⟨_, _, _, _, _, hc6, HM3.out.trans hm6, HR4.out⟩)
      clear hc6 hm6
      go_wp2_with fail
      go_roundg (l.length - (i + 1))
      case measure => omega
      case rel => exact ⟨i + 1, rfl, rfl, by omega, HN⟩
    · obtain rfl : i = l.length := by omega
      rw [List.drop_length] at hr2
      cases hr2
      have HC2 := Lib.hid hc2
      have HM2 := Lib.hid hm2
      have k0 := blk_cell hc2.blk 0 _ rfl
      clear hc2 hm2
      go_wp2_with fail
      go_ret
      exact compPost_mk rfl HC2.out HM2.out


end Go.Proofs.YtcfhhcjcnafcjaaFmt
