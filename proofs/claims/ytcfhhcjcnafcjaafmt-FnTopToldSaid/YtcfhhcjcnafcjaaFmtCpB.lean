/-
  Calls of compilePattern over one item: a class with a quantifier. Conditions as each statement says.
-/
import Derived.Test.YtcfhhcjcnafcjaaFmtCompAll
namespace Go.Proofs.YtcfhhcjcnafcjaaFmt
open Go.RowKit
set_option linter.unusedVariables false
set_option linter.unusedSimpArgs false


set_option maxHeartbeats 4000000 in
set_option maxRecDepth 1000000 in
theorem cp_star (c : Cl) : CompSpec (.rep 42 c) := by
  intro w v m g ao cap I k xs I' k' hc hp hg hr hl hk
  obtain ⟨i0, hi, hz0, hz1, hz2⟩ := info_parts inst_info
  cases hp with
  | @rep _ _ b vc _ _ hb1 hb2 hcl hnil =>
  cases hnil
  cases hr with
  | star hr =>
  cases hr
  obtain ⟨Tv, pv, rfl⟩ := hcl.iface
  have hlI : I.length + 3 ≤ 16777216 := by simpa using hl
  have HCL := Lib.hid hcl
  have kb := blk_cell hb2 0 _ rfl
  have kb1 := blk_cell hb2 1 _ rfl
  have HC := Lib.hid hc
  have HB := Lib.hid hc.blk
  have HRW := Lib.hid hc.row
  have k0 := blk_cell hc.blk 0 _ rfl
  have f0 := blk_free hc.blk 0
  have n0 : ∀ o, (w.alloc o).cell? ⟨m, 0, none⟩ = some (.slice ao I.length cap) := fun o => blk_cell (blk_alloc HB.out o) 0 _ rfl
  clear hc hcl hb1 hb2 hl
  have wr1 : IntKind.i64.wrap ((I.length : Int) + 1) = (I.length : Int) + 1 := by rw [IntWalk.i64_in _ (by omega)]
  have wr2 : IntKind.i64.wrap ((I.length : Int) + 2) = (I.length : Int) + 2 := by rw [IntWalk.i64_in _ (by omega)]
  have wr3 : IntKind.i64.wrap ((I.length : Int) + 3) = (I.length : Int) + 3 := by rw [IntWalk.i64_in _ (by omega)]
  go_enter Tryf.func20, Tryf.ntmps20
  go_wp2_with fail
  go_region_law ((refine step_append_lies _ (by rfl) _ _ _ (by rfl) 0 123 i0 _ 4 40 Tryf.underlying70 hi hz0 hz1 hz2 rfl (by omega) (.slice ao I.length cap) I.length xs (by rfl) ((HC.out.own.alloc _).drew) ⟨w.heap.size, 0, none⟩ 3 3 [.int .i64 4, .nilIface, .int .i64 ((I.length : Int) + 1), .int .i64 ((I.length : Int) + 3), .int .i64 0, .iface Tv (.pointer pv), .int .i64 (-1), .int .i64 (-1), .int .i64 3, .nilIface, .int .i64 (I.length : Int), .int .i64 (-1)] (by rfl) (by rfl) (news_nd (by simp)) (by simp [Value.oneCell']) (by omega) (by unfold maxLen; omega) (by omega) (by omega) (w.heap.size + 1) (by simp) ?_; intro g1 c1 w8 hown hgrow hat hlt8; have HO' := Lib.hid hown; have HGw := Lib.hid hgrow; have HAt := Lib.hid hat; clear hown hgrow hat hlt8; have hb8 := blk_grown (blk_drew (blk_alloc HB.out _)) HGw.out (fun e => by have := HRW.out _ (by rw [ownBlock_slice] at e; exact e.symm); omega); have k8 : w8.cell? ⟨m, 0, none⟩ = some (.slice ao I.length cap) := blk_cell hb8 0 _ rfl; have f8 : w8.frozen? ⟨m, 0, none⟩ = false := blk_free hb8 0; clear hb8))
  all_goals
    go_wp2_with fail
    have hpush := comp_push (n := 3) (J := [.split (I.length + 1) (I.length + 3), .chr c, .jmp I.length]) (Moved.drew ((Moved.refl w m ao).alloc (.cells (List.toArray [.int .i64 4, .nilIface, .int .i64 ((I.length : Int) + 1), .int .i64 ((I.length : Int) + 3), .int .i64 0, .iface Tv (.pointer pv), .int .i64 (-1), .int .i64 (-1), .int .i64 3, .nilIface, .int .i64 (I.length : Int), .int .i64 (-1)]) 123))) (comp_drew (HC.out.alloc _)) (by have hh : InssAt (CX m ao) ((w.alloc (.cells (List.toArray [.int .i64 4, .nilIface, .int .i64 ((I.length : Int) + 1), .int .i64 ((I.length : Int) + 3), .int .i64 0, .iface Tv (.pointer pv), .int .i64 (-1), .int .i64 (-1), .int .i64 3, .nilIface, .int .i64 (I.length : Int), .int .i64 (-1)]) 123)).drew) [.split (I.length + 1) (I.length + 3), .chr c, .jmp I.length] _ := InssAt.cons (i := .split (I.length + 1) (I.length + 3)) .split (InssAt.cons (.chr (HCL.out.kept (fun k' o' _ ho => blk_drew (blk_alloc ho _)) (fun _ _ h => h))) (InssAt.one (i := .jmp I.length) .jmp)); simpa using hh) rfl HGw.out HO'.out HAt.out
    have k9 := blk_cell hpush.1.blk 0 _ rfl
    have HP := Lib.hid hpush
    clear hpush
    go_wp2_with fail
    go_ret
    exact compPost_mk (by simp) HP.out.1 HP.out.2



set_option maxHeartbeats 4000000 in
set_option maxRecDepth 1000000 in
theorem cp_plus (c : Cl) : CompSpec (.rep 43 c) := by
  intro w v m g ao cap I k xs I' k' hc hp hg hr hl hk
  obtain ⟨i0, hi, hz0, hz1, hz2⟩ := info_parts inst_info
  cases hp with
  | @rep _ _ b vc _ _ hb1 hb2 hcl hnil =>
  cases hnil
  cases hr with
  | plus hr =>
  cases hr
  obtain ⟨Tv, pv, rfl⟩ := hcl.iface
  have hlI : I.length + 2 ≤ 16777216 := by simpa using hl
  have HCL := Lib.hid hcl
  have kb := blk_cell hb2 0 _ rfl
  have kb1 := blk_cell hb2 1 _ rfl
  have HC := Lib.hid hc
  have HB := Lib.hid hc.blk
  have HRW := Lib.hid hc.row
  have k0 := blk_cell hc.blk 0 _ rfl
  have f0 := blk_free hc.blk 0
  have n0 : ∀ o, (w.alloc o).cell? ⟨m, 0, none⟩ = some (.slice ao I.length cap) := fun o => blk_cell (blk_alloc HB.out o) 0 _ rfl
  clear hc hcl hb1 hb2 hl
  have wr1 : IntKind.i64.wrap ((I.length : Int) + 1) = (I.length : Int) + 1 := by rw [IntWalk.i64_in _ (by omega)]
  have wr2 : IntKind.i64.wrap ((I.length : Int) + 2) = (I.length : Int) + 2 := by rw [IntWalk.i64_in _ (by omega)]
  have wr3 : IntKind.i64.wrap ((I.length : Int) + 3) = (I.length : Int) + 3 := by rw [IntWalk.i64_in _ (by omega)]
  go_enter Tryf.func20, Tryf.ntmps20
  go_wp2_with fail
  go_region_law ((refine step_append_lies _ (by rfl) _ _ _ (by rfl) 0 123 i0 _ 4 40 Tryf.underlying70 hi hz0 hz1 hz2 rfl (by omega) (.slice ao I.length cap) I.length xs (by rfl) ((HC.out.own.alloc _).drew) ⟨w.heap.size, 0, none⟩ 2 2 [.int .i64 0, .iface Tv (.pointer pv), .int .i64 (-1), .int .i64 (-1), .int .i64 4, .nilIface, .int .i64 (I.length : Int), .int .i64 ((I.length : Int) + 2)] (by rfl) (by rfl) (news_nd (by simp)) (by simp [Value.oneCell']) (by omega) (by unfold maxLen; omega) (by omega) (by omega) (w.heap.size + 1) (by simp) ?_; intro g1 c1 w8 hown hgrow hat hlt8; have HO' := Lib.hid hown; have HGw := Lib.hid hgrow; have HAt := Lib.hid hat; clear hown hgrow hat hlt8; have hb8 := blk_grown (blk_drew (blk_alloc HB.out _)) HGw.out (fun e => by have := HRW.out _ (by rw [ownBlock_slice] at e; exact e.symm); omega); have k8 : w8.cell? ⟨m, 0, none⟩ = some (.slice ao I.length cap) := blk_cell hb8 0 _ rfl; have f8 : w8.frozen? ⟨m, 0, none⟩ = false := blk_free hb8 0; clear hb8))
  all_goals
    go_wp2_with fail
    have hpush := comp_push (n := 2) (J := [.chr c, .split I.length (I.length + 2)]) (Moved.drew ((Moved.refl w m ao).alloc (.cells (List.toArray [.int .i64 0, .iface Tv (.pointer pv), .int .i64 (-1), .int .i64 (-1), .int .i64 4, .nilIface, .int .i64 (I.length : Int), .int .i64 ((I.length : Int) + 2)]) 123))) (comp_drew (HC.out.alloc _)) (by have hh : InssAt (CX m ao) ((w.alloc (.cells (List.toArray [.int .i64 0, .iface Tv (.pointer pv), .int .i64 (-1), .int .i64 (-1), .int .i64 4, .nilIface, .int .i64 (I.length : Int), .int .i64 ((I.length : Int) + 2)]) 123)).drew) [.chr c, .split I.length (I.length + 2)] _ := InssAt.cons (.chr (HCL.out.kept (fun k' o' _ ho => blk_drew (blk_alloc ho _)) (fun _ _ h => h))) (InssAt.one (i := .split I.length (I.length + 2)) .split); simpa using hh) rfl HGw.out HO'.out HAt.out
    have k9 := blk_cell hpush.1.blk 0 _ rfl
    have HP := Lib.hid hpush
    clear hpush
    go_wp2_with fail
    go_ret
    exact compPost_mk (by simp) HP.out.1 HP.out.2



set_option maxHeartbeats 4000000 in
set_option maxRecDepth 1000000 in
theorem cp_minus (c : Cl) : CompSpec (.rep 45 c) := by
  intro w v m g ao cap I k xs I' k' hc hp hg hr hl hk
  obtain ⟨i0, hi, hz0, hz1, hz2⟩ := info_parts inst_info
  cases hp with
  | @rep _ _ b vc _ _ hb1 hb2 hcl hnil =>
  cases hnil
  cases hr with
  | minus hr =>
  cases hr
  obtain ⟨Tv, pv, rfl⟩ := hcl.iface
  have hlI : I.length + 3 ≤ 16777216 := by simpa using hl
  have HCL := Lib.hid hcl
  have kb := blk_cell hb2 0 _ rfl
  have kb1 := blk_cell hb2 1 _ rfl
  have HC := Lib.hid hc
  have HB := Lib.hid hc.blk
  have HRW := Lib.hid hc.row
  have k0 := blk_cell hc.blk 0 _ rfl
  have f0 := blk_free hc.blk 0
  have n0 : ∀ o, (w.alloc o).cell? ⟨m, 0, none⟩ = some (.slice ao I.length cap) := fun o => blk_cell (blk_alloc HB.out o) 0 _ rfl
  clear hc hcl hb1 hb2 hl
  have wr1 : IntKind.i64.wrap ((I.length : Int) + 1) = (I.length : Int) + 1 := by rw [IntWalk.i64_in _ (by omega)]
  have wr2 : IntKind.i64.wrap ((I.length : Int) + 2) = (I.length : Int) + 2 := by rw [IntWalk.i64_in _ (by omega)]
  have wr3 : IntKind.i64.wrap ((I.length : Int) + 3) = (I.length : Int) + 3 := by rw [IntWalk.i64_in _ (by omega)]
  go_enter Tryf.func20, Tryf.ntmps20
  go_wp2_with fail
  go_region_law ((refine step_append_lies _ (by rfl) _ _ _ (by rfl) 0 123 i0 _ 4 40 Tryf.underlying70 hi hz0 hz1 hz2 rfl (by omega) (.slice ao I.length cap) I.length xs (by rfl) ((HC.out.own.alloc _).drew) ⟨w.heap.size, 0, none⟩ 3 3 [.int .i64 4, .nilIface, .int .i64 ((I.length : Int) + 3), .int .i64 ((I.length : Int) + 1), .int .i64 0, .iface Tv (.pointer pv), .int .i64 (-1), .int .i64 (-1), .int .i64 3, .nilIface, .int .i64 (I.length : Int), .int .i64 (-1)] (by rfl) (by rfl) (news_nd (by simp)) (by simp [Value.oneCell']) (by omega) (by unfold maxLen; omega) (by omega) (by omega) (w.heap.size + 1) (by simp) ?_; intro g1 c1 w8 hown hgrow hat hlt8; have HO' := Lib.hid hown; have HGw := Lib.hid hgrow; have HAt := Lib.hid hat; clear hown hgrow hat hlt8; have hb8 := blk_grown (blk_drew (blk_alloc HB.out _)) HGw.out (fun e => by have := HRW.out _ (by rw [ownBlock_slice] at e; exact e.symm); omega); have k8 : w8.cell? ⟨m, 0, none⟩ = some (.slice ao I.length cap) := blk_cell hb8 0 _ rfl; have f8 : w8.frozen? ⟨m, 0, none⟩ = false := blk_free hb8 0; clear hb8))
  all_goals
    go_wp2_with fail
    have hpush := comp_push (n := 3) (J := [.split (I.length + 3) (I.length + 1), .chr c, .jmp I.length]) (Moved.drew ((Moved.refl w m ao).alloc (.cells (List.toArray [.int .i64 4, .nilIface, .int .i64 ((I.length : Int) + 3), .int .i64 ((I.length : Int) + 1), .int .i64 0, .iface Tv (.pointer pv), .int .i64 (-1), .int .i64 (-1), .int .i64 3, .nilIface, .int .i64 (I.length : Int), .int .i64 (-1)]) 123))) (comp_drew (HC.out.alloc _)) (by have hh : InssAt (CX m ao) ((w.alloc (.cells (List.toArray [.int .i64 4, .nilIface, .int .i64 ((I.length : Int) + 3), .int .i64 ((I.length : Int) + 1), .int .i64 0, .iface Tv (.pointer pv), .int .i64 (-1), .int .i64 (-1), .int .i64 3, .nilIface, .int .i64 (I.length : Int), .int .i64 (-1)]) 123)).drew) [.split (I.length + 3) (I.length + 1), .chr c, .jmp I.length] _ := InssAt.cons (i := .split (I.length + 3) (I.length + 1)) .split (InssAt.cons (.chr (HCL.out.kept (fun k' o' _ ho => blk_drew (blk_alloc ho _)) (fun _ _ h => h))) (InssAt.one (i := .jmp I.length) .jmp)); simpa using hh) rfl HGw.out HO'.out HAt.out
    have k9 := blk_cell hpush.1.blk 0 _ rfl
    have HP := Lib.hid hpush
    clear hpush
    go_wp2_with fail
    go_ret
    exact compPost_mk (by simp) HP.out.1 HP.out.2



set_option maxHeartbeats 4000000 in
set_option maxRecDepth 1000000 in
theorem cp_opt (c : Cl) : CompSpec (.rep 63 c) := by
  intro w v m g ao cap I k xs I' k' hc hp hg hr hl hk
  obtain ⟨i0, hi, hz0, hz1, hz2⟩ := info_parts inst_info
  cases hp with
  | @rep _ _ b vc _ _ hb1 hb2 hcl hnil =>
  cases hnil
  cases hr with
  | opt hr =>
  cases hr
  obtain ⟨Tv, pv, rfl⟩ := hcl.iface
  have hlI : I.length + 2 ≤ 16777216 := by simpa using hl
  have HCL := Lib.hid hcl
  have kb := blk_cell hb2 0 _ rfl
  have kb1 := blk_cell hb2 1 _ rfl
  have HC := Lib.hid hc
  have HB := Lib.hid hc.blk
  have HRW := Lib.hid hc.row
  have k0 := blk_cell hc.blk 0 _ rfl
  have f0 := blk_free hc.blk 0
  have n0 : ∀ o, (w.alloc o).cell? ⟨m, 0, none⟩ = some (.slice ao I.length cap) := fun o => blk_cell (blk_alloc HB.out o) 0 _ rfl
  clear hc hcl hb1 hb2 hl
  have wr1 : IntKind.i64.wrap ((I.length : Int) + 1) = (I.length : Int) + 1 := by rw [IntWalk.i64_in _ (by omega)]
  have wr2 : IntKind.i64.wrap ((I.length : Int) + 2) = (I.length : Int) + 2 := by rw [IntWalk.i64_in _ (by omega)]
  have wr3 : IntKind.i64.wrap ((I.length : Int) + 3) = (I.length : Int) + 3 := by rw [IntWalk.i64_in _ (by omega)]
  go_enter Tryf.func20, Tryf.ntmps20
  go_wp2_with fail
  go_region_law ((refine step_append_lies _ (by rfl) _ _ _ (by rfl) 0 123 i0 _ 4 40 Tryf.underlying70 hi hz0 hz1 hz2 rfl (by omega) (.slice ao I.length cap) I.length xs (by rfl) ((HC.out.own.alloc _).drew) ⟨w.heap.size, 0, none⟩ 2 2 [.int .i64 4, .nilIface, .int .i64 ((I.length : Int) + 1), .int .i64 ((I.length : Int) + 2), .int .i64 0, .iface Tv (.pointer pv), .int .i64 (-1), .int .i64 (-1)] (by rfl) (by rfl) (news_nd (by simp)) (by simp [Value.oneCell']) (by omega) (by unfold maxLen; omega) (by omega) (by omega) (w.heap.size + 1) (by simp) ?_; intro g1 c1 w8 hown hgrow hat hlt8; have HO' := Lib.hid hown; have HGw := Lib.hid hgrow; have HAt := Lib.hid hat; clear hown hgrow hat hlt8; have hb8 := blk_grown (blk_drew (blk_alloc HB.out _)) HGw.out (fun e => by have := HRW.out _ (by rw [ownBlock_slice] at e; exact e.symm); omega); have k8 : w8.cell? ⟨m, 0, none⟩ = some (.slice ao I.length cap) := blk_cell hb8 0 _ rfl; have f8 : w8.frozen? ⟨m, 0, none⟩ = false := blk_free hb8 0; clear hb8))
  all_goals
    go_wp2_with fail
    have hpush := comp_push (n := 2) (J := [.split (I.length + 1) (I.length + 2), .chr c]) (Moved.drew ((Moved.refl w m ao).alloc (.cells (List.toArray [.int .i64 4, .nilIface, .int .i64 ((I.length : Int) + 1), .int .i64 ((I.length : Int) + 2), .int .i64 0, .iface Tv (.pointer pv), .int .i64 (-1), .int .i64 (-1)]) 123))) (comp_drew (HC.out.alloc _)) (by have hh : InssAt (CX m ao) ((w.alloc (.cells (List.toArray [.int .i64 4, .nilIface, .int .i64 ((I.length : Int) + 1), .int .i64 ((I.length : Int) + 2), .int .i64 0, .iface Tv (.pointer pv), .int .i64 (-1), .int .i64 (-1)]) 123)).drew) [.split (I.length + 1) (I.length + 2), .chr c] _ := InssAt.cons (i := .split (I.length + 1) (I.length + 2)) .split (InssAt.one (.chr (HCL.out.kept (fun k' o' _ ho => blk_drew (blk_alloc ho _)) (fun _ _ h => h)))); simpa using hh) rfl HGw.out HO'.out HAt.out
    have k9 := blk_cell hpush.1.blk 0 _ rfl
    have HP := Lib.hid hpush
    clear hpush
    go_wp2_with fail
    go_ret
    exact compPost_mk (by simp) HP.out.1 HP.out.2


end Go.Proofs.YtcfhhcjcnafcjaaFmt
