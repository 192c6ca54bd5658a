/-
  The contract of zzCopyFrames: the same frames in new memory. Its condition: at most 4096 frames, which lie in memory.
-/
import Derived.Test.YtjbehcabekkjdaaFmtGuards
import Derived.Laws.OwnMore
namespace Go.Proofs.YtjbehcabekkjdaaFmt
open Go.RowKit
set_option linter.unusedVariables false
set_option linter.unusedSimpArgs false

theorem info_parts' {o : Option TypeInfo} {z : Value} {size bytes : Nat} (h : o.map (fun i => (i.zero, i.size, i.bytes)) = some (some z, size, bytes)) : ∃ i, o = some i ∧ i.zero = some z ∧ i.size = size ∧ i.bytes = bytes := by
  cases o with
  | none => simp at h
  | some i => simp at h; exact ⟨i, rfl, h.1, h.2.1, h.2.2⟩
theorem own_type {w : World} {B : Nat} {T : TypeId} {sz : Nat} {ao : Option Addr} {n cap : Nat} {xs : List Value} (ho : w.ownsRow B T sz (.slice ao n cap) n xs) : ∀ g, blkOf ao = some g → ∃ c, w.heap[g]? = some (.cells c T (0, 0)) := by
  intro g hg
  rcases ho.2 with ⟨h1, _⟩ | ⟨g', c, cur, h1, hb, hc, _⟩
  · simp only [Value.slice.injEq] at h1
    rw [h1.1] at hg; cases hg
  · simp only [Value.slice.injEq] at h1
    rw [h1.1] at hg
    simp only [blkOf, Option.map_some, Option.some.injEq] at hg
    subst hg
    exact ⟨cur, hc⟩
theorem own_free {w : World} {B : Nat} {T : TypeId} {sz : Nat} {g n cap : Nat} {xs : List Value} (ho : w.ownsRow B T sz (.slice (some ⟨g, 0, none⟩) n cap) n xs) (j : Nat) : w.frozen? ⟨g, j, none⟩ = false := by
  obtain ⟨c, hc⟩ := own_type ho g rfl
  exact blk_free hc j
theorem zframe_info : (Tryf.prog.info? 41).map (fun i => (i.zero, i.size, i.bytes)) = some (some (.agg #[.bool false, .int .i64 0, .int .i64 0, .string ⟨#[]⟩, .int .i64 0]), 5, 48) := by kernel_rfl
/-- The first k frames stand in the row. -/
def Rowed (xs : List Value) (fs : List Fr) (k : Nat) : Prop := ∀ i, i < k → ∀ j, j < 5 → xs[i * 5 + j]? = fs[i]!.cells[j]?
theorem frAt_of {w : World} {g B n cap : Nat} {xs : List Value} {f : Fr} {i : Nat} (h : w.ownsRow B 41 5 (.slice (some ⟨g, 0, none⟩) n cap) n xs) (hi : i < n) (hx : ∀ j, j < 5 → xs[i * 5 + j]? = f.cells[j]?) : FrAt w g (0 + i * 5) f := by
  have c := fun j (hj : j < 5) => (h.cellAt (i * 5 + j) (by omega)).trans (hx j hj)
  rw [Nat.zero_add]
  exact ⟨c 0 (by omega), c 1 (by omega), c 2 (by omega), c 3 (by omega), c 4 (by omega)⟩
theorem frsAt_of {w : World} {g B cap : Nat} {xs : List Value} {fs : List Fr} (h : w.ownsRow B 41 5 (.slice (some ⟨g, 0, none⟩) fs.length cap) fs.length xs) (hx : Rowed xs fs fs.length) : FrsAt w (some ⟨g, 0, none⟩) fs := fun h0 =>
  ⟨g, 0, rfl, by
    rcases h.2 with ⟨h1, _⟩ | ⟨g', c, cur, h1, hb, hg, _⟩
    · simp at h1
    · simp only [Value.slice.injEq, Option.some.injEq, Addr.mk.injEq, and_true] at h1
      rw [h1.1]; exact blk_lt hg, fun i hi => frAt_of h hi (fun j hj => hx i hi j hj)⟩
theorem row_store {w : World} {g B n cap : Nat} {xs : List Value} {fs : List Fr} {f : Fr} {k : Nat} (h : w.ownsRow B 41 5 (.slice (some ⟨g, 0, none⟩) n cap) n xs) (hk : k < n) (hR : Rowed xs fs k) (hf : fs[k]! = f) :
    ∃ xs', (((((w.setCell ⟨g, k * 5, none⟩ (.bool f.g)).setCell ⟨g, k * 5 + 1, none⟩ (.int .i64 f.line)).setCell ⟨g, k * 5 + 2, none⟩ (.int .i64 f.tail)).setCell ⟨g, k * 5 + 3, none⟩ (.string f.name)).setCell ⟨g, k * 5 + 4, none⟩ (.int .i64 f.cpc)).ownsRow B 41 5 (.slice (some ⟨g, 0, none⟩) n cap) n xs' ∧ Rowed xs' fs (k + 1) := by
  have hl : xs.length = n * 5 := h.1
  have h5 := ((((h.stored (k * 5) (.bool f.g)).1.stored (k * 5 + 1) (.int .i64 f.line)).1.stored (k * 5 + 2) (.int .i64 f.tail)).1.stored (k * 5 + 3) (.string f.name)).1.stored (k * 5 + 4) (.int .i64 f.cpc)
  refine ⟨_, h5.1, fun i hi j hj => ?_⟩
  rcases Nat.lt_or_ge i k with h1 | h1
  · have := hR i h1 j hj
    rw [List.getElem?_set_ne (by omega), List.getElem?_set_ne (by omega), List.getElem?_set_ne (by omega), List.getElem?_set_ne (by omega), List.getElem?_set_ne (by omega), this]
  · obtain rfl : i = k := by omega
    rw [hf]
    rcases (show j = 0 ∨ j = 1 ∨ j = 2 ∨ j = 3 ∨ j = 4 by omega) with rfl | rfl | rfl | rfl | rfl
    · have e : i * 5 + 0 = i * 5 := rfl
      rw [e, List.getElem?_set_ne (by omega), List.getElem?_set_ne (by omega), List.getElem?_set_ne (by omega), List.getElem?_set_ne (by omega), List.getElem?_set_self (by omega)]; rfl
    · rw [List.getElem?_set_ne (by omega), List.getElem?_set_ne (by omega), List.getElem?_set_ne (by omega), List.getElem?_set_self (by simp; omega)]; rfl
    · rw [List.getElem?_set_ne (by omega), List.getElem?_set_ne (by omega), List.getElem?_set_self (by simp; omega)]; rfl
    · rw [List.getElem?_set_ne (by omega), List.getElem?_set_self (by simp; omega)]; rfl
    · rw [List.getElem?_set_self (by simp; omega)]; rfl
/-- What the copy gives. -/
def CopiedF (w : World) (fs : List Fr) (e : Ending) (w' : World) : Prop :=
  ∃ a' c', e = .returned (.slice a' fs.length c') ∧ FrsAt w' a' fs ∧ Below w.heap.size w w' ∧ fs.length ≤ c' ∧ c' ≤ 4096 ∧ (a' = none → fs.length = 0) ∧ ∀ x, a' = some x → x.off = 0 ∧ x.spot = none
set_option maxHeartbeats 1000000 in
theorem copyF_any (a : Option Addr) (cap : Nat) (fs : List Fr) (w : World) (h : FrsAt w a fs) (hnil : a = none → fs.length = 0) (hl : fs.length ≤ 4096) :
    Calls Tryf.prog 9 #[.slice a fs.length cap] w (CopiedF w fs) := by
  have qT : ∀ (w : World) (a : Option Addr) (n c n' c' : Nat), (binOp .eql 22 (.slice a n c) (.slice none n' c')).run Tryf.prog w = .ok (.bool a.isNone) w := fun w a n c n' c' => Lib.run_eql_slice_nil w _ _ a n c n' c' Tryf.underlying22
  cases a with
  | none =>
    have hz : fs = [] := List.length_eq_zero_iff.1 (hnil rfl)
    subst hz
    clear h hnil hl
    go_enter Tryf.func9, Tryf.ntmps9
    go_wp2
    go_ret
    exact ⟨none, 0, rfl, fun h0 => absurd h0 (Nat.lt_irrefl _), Below.refl _ _, Nat.le_refl _, by omega, fun _ => rfl, fun x hx => by cases hx⟩
  | some x =>
    clear hnil
    obtain ⟨i0, hi, hz0, hz1, hz2⟩ := info_parts' zframe_info
    obtain ⟨w1, hmk, hown, hgr⟩ := run_make_full (P := Tryf.prog) w w.heap.size 22 41 i0 _ 5 Tryf.underlying22 hi hz0 hz1 .i64 .i64 fs.length (by rw [hz2]; omega) (by unfold maxLen; omega) (Nat.le_refl _)
    have HOWN := Lib.hid hown
    have HB1 : Hid (Below w.heap.size w w1) := Lib.hid ⟨hgr.os, hgr.tape, hgr.output, hgr.size, fun i hi => hgr.block i hi (by simp)⟩
    have HF := Lib.hid h
    clear hown hgr h hi hz0 hz1 hz2
    generalize madeCells _ _ = mc at *
    generalize hn : fs.length = n at *
    have HN := Lib.hid hn
    clear hn
    go_enter Tryf.func9, Tryf.ntmps9
    go_wp2
    clear hmk
    go_loopw [4] (fun i wr => ∃ (k : Nat) (xs : List Value), k ≤ n ∧ i = .int .i64 k ∧ wr.ownsRow w.heap.size 41 5 (.slice (some ⟨w.heap.size, 0, none⟩) n n) n xs ∧ Hid (Rowed xs fs k) ∧ Below w.heap.size w wr)
      (fun i _ => n - (intOf i).toNat)
    case atStart => exact ⟨0, _, Nat.zero_le _, rfl, HOWN.out, Lib.hid (fun i h => by omega), HB1.out⟩
    case round =>
      obtain ⟨k, xs, hk, rfl, ho, HR, hb⟩ := hrel
      have HO := Lib.hid ho
      have HB := Lib.hid hb
      clear ho hb
      by_cases hlt : k < n
      · obtain ⟨b, off, hx, hbl, hc⟩ := HF.out (by rw [HN.out]; omega)
        injection hx with hx
        subst hx
        obtain ⟨h0, h1, h2, h3, h4⟩ := hc k (by rw [HN.out]; omega)
        obtain ⟨⟨fg, fl, ft, nm, fc⟩, hfe⟩ : ∃ f, fs[k]! = f := ⟨_, rfl⟩
        rw [hfe] at h0 h1 h2 h3 h4
        simp only at h0 h1 h2 h3 h4
        have c0 := (HB.out.cell (p := ⟨b, off + k * 5, none⟩) hbl).trans h0
        have c1 := (HB.out.cell (p := ⟨b, off + k * 5 + 1, none⟩) hbl).trans h1
        have c2 := (HB.out.cell (p := ⟨b, off + k * 5 + 2, none⟩) hbl).trans h2
        have c3 := (HB.out.cell (p := ⟨b, off + k * 5 + 3, none⟩) hbl).trans h3
        have c4 := (HB.out.cell (p := ⟨b, off + k * 5 + 4, none⟩) hbl).trans h4
        have HFE := Lib.hid hfe
        clear hfe h0 h1 h2 h3 h4 hc
        have h5 : (k : Int) < (n : Int) := by omega
        have hxl : xs.length = n * 5 := HO.out.1
        have hd : ∀ j, j < 5 → ∃ u, wr.cell? ⟨w.heap.size, k * 5 + j, none⟩ = some u := fun j hj => ⟨_, (HO.out.cellAt (k * 5 + j) (by omega)).trans (List.getElem?_eq_getElem (by omega))⟩
        obtain ⟨u0, d0⟩ := hd 0 (by omega)
        obtain ⟨u1, d1⟩ := hd 1 (by omega)
        obtain ⟨u2, d2⟩ := hd 2 (by omega)
        obtain ⟨u3, d3⟩ := hd 3 (by omega)
        obtain ⟨u4, d4⟩ := hd 4 (by omega)
        rw [Nat.add_zero] at d0
        have e0 := own_free HO.out (k * 5)
        have e1 := own_free HO.out (k * 5 + 1)
        have e2 := own_free HO.out (k * 5 + 2)
        have e3 := own_free HO.out (k * 5 + 3)
        have e4 := own_free HO.out (k * 5 + 4)
        have HST := Lib.hid (row_store HO.out (f := ⟨fg, fl, ft, nm, fc⟩) (k := k) hlt HR.out HFE.out)
        have HB2 := Lib.hid (((((HB.out.setCell (p := ⟨w.heap.size, k * 5, none⟩) (Nat.le_refl _) (.bool fg)).setCell (p := ⟨w.heap.size, k * 5 + 1, none⟩) (Nat.le_refl _) (.int .i64 fl)).setCell (p := ⟨w.heap.size, k * 5 + 2, none⟩) (Nat.le_refl _) (.int .i64 ft)).setCell (p := ⟨w.heap.size, k * 5 + 3, none⟩) (Nat.le_refl _) (.string nm)).setCell (p := ⟨w.heap.size, k * 5 + 4, none⟩) (Nat.le_refl _) (.int .i64 fc))
        clear hd
        go_wp2_with fail
        go_roundw
        case rel =>
          obtain ⟨xs', h1, h2⟩ := HST.out
          exact ⟨k + 1, xs', by omega, by go_num, h1, Lib.hid h2, HB2.out⟩
        case measure => simp [intOf]; omega
      · obtain rfl : k = n := by omega
        go_wp2_with fail
        go_ret
        rw [← HN.out] at HO HR hl ⊢
        exact ⟨some ⟨w.heap.size, 0, none⟩, fs.length, rfl, frsAt_of HO.out HR.out, HB.out, Nat.le_refl _, hl, (fun h => by cases h), fun x hx => by injection hx with hx; subst hx; exact ⟨rfl, rfl⟩⟩
end Go.Proofs.YtjbehcabekkjdaaFmt
