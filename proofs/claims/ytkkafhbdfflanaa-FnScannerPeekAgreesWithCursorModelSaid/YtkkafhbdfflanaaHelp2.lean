/-
  The contracts of the helpers of the scanner statement of n005_2: the copy of a byte slice, the guard on lengths, the making of a scanner. Their condition: the slices can be read.
-/
import Derived.Test.YtkkafhbdfflanaaScan
import Derived.Laws.CopyOwn
namespace Go.Proofs.Ytkkafhbdfflanaa
open Go.RowKit
set_option linter.unusedVariables false
set_option linter.unusedSimpArgs false

theorem copyB_info : (Try.prog.info? 5).map (fun i => (i.zero, i.size, i.bytes)) = some (some (.int .u8 0), 1, 1) := by kernel_rfl
theorem copyB_size : (Try.prog.info? 5).map (·.size) = some 1 := by kernel_rfl
set_option maxHeartbeats 400000 in
/-- A copy by 'copy' of a slice of integers: the same numbers in new memory; nothing that was there is written. -/
theorem copyB_any (a : Option Addr) (cap : Nat) (zs : List Int) (w : World) (h : RowInt .u8 w a zs) (hnil : a = none → zs.length = 0) (hl : zs.length ≤ 4194304) :
    Calls Try.prog 11 #[.slice a zs.length cap] w (Copied .u8 w zs) := by
  have qT : ∀ (w : World) (a : Option Addr) (n c n' c' : Nat), (binOp .eql 25 (.slice a n c) (.slice none n' c')).run Try.prog w = .ok (.bool a.isNone) w := fun w a n c n' c' => Lib.run_eql_slice_nil w _ _ a n c n' c' Try.underlying25
  cases a with
  | none =>
    have hz : zs = [] := List.length_eq_zero_iff.1 (hnil rfl)
    subst hz
    clear h hnil hl
    go_enter Try.func11, Try.ntmps11
    go_wp2
    go_ret
    exact ⟨none, 0, rfl, fun _ => rfl, fun _ hx => (by cases hx), fun h0 => absurd h0 (Nat.lt_irrefl _), Below.refl _ _⟩
  | some x =>
    clear hnil
    have hmk := fun W => run_make_row' (P := Try.prog) 25 5 (.int .u8 0) 1 Try.underlying25 copyB_info rfl .i64 .i64 zs.length (by omega) (by omega) W
    have hcell : ∀ (w1 : World), Below w.heap.size w w1 → 0 < (zs.map (Value.int .u8)).length → (some (⟨w.heap.size, 0, none⟩ : Addr)) = some ⟨w.heap.size, 0, none⟩ ∧ ∃ ad, some x = some ad ∧ ∀ j v, (zs.map (Value.int .u8))[j]? = some v → w1.cell? (ad.add j) = some v := fun w1 hb h0 => by
      refine ⟨rfl, x, rfl, fun j v hj => ?_⟩
      have hj' : j < zs.length := by
        have := (List.getElem?_eq_some_iff.1 hj).1; simpa using this
      obtain ⟨b, off, h1, h2⟩ := h (by omega)
      injection h1 with h1; subst h1
      rw [addr_add]
      have h3 := h2 j hj'
      refine ((hb.cell (p := ⟨b, off + j, none⟩) (lt_of_cell h3)).trans h3).trans ?_
      rw [← hj, List.getElem?_map, List.getElem?_eq_getElem hj', List.getD_eq_getElem?_getD, List.getElem?_eq_getElem hj']; rfl
    have HC := Lib.hid hcell
    have hnew : ((w.alloc (.cells (madeCells #[.int .u8 0] zs.length) 5)).heap[w.heap.size]? = some (.cells ((madeCells #[.int .u8 0] zs.length).toList).toArray 5 (0, 0))) := by rw [Array.toArray_toList]; exact blk_new _ _
    have hbel := (Below.refl w.heap.size w).alloc (Nat.le_refl _) (.cells (madeCells #[Value.int .u8 0] zs.length) 5)
    have hsz := size_madeCells #[Value.int .u8 0] zs.length
    have HN := Lib.hid hnew
    have HB := Lib.hid hbel
    have HZ := Lib.hid hsz
    have hl1 : (zs.map (Value.int .u8)).length = Nat.min zs.length zs.length := by rw [List.length_map]; exact (Nat.min_self _).symm
    have hl2 : 0 + (zs.map (Value.int .u8)).length ≤ ((madeCells #[Value.int .u8 0] zs.length).toList).length := by
      have h4 : ((madeCells #[Value.int .u8 0] zs.length).toList).length = zs.length := hsz
      rw [List.length_map, h4]; omega
    have hl3 : ∀ v, v ∈ zs.map (Value.int .u8) → v.oneCell' = true := fun v hv => by simp only [List.mem_map] at hv; obtain ⟨q, _, rfl⟩ := hv; rfl
    have H1 := Lib.hid hl1
    have H2 := Lib.hid hl2
    have H3 := Lib.hid hl3
    clear hcell h hnew hbel hsz hl1 hl2 hl3
    go_enter Try.func11, Try.ntmps11
    go_wp2_with (refine wpList_copy_splice (o := ⟨some 11, _, _, _, _, _⟩) rfl (.tmp 9) (.tmp 10) 25 25 rfl 5 Try.underlying25 copyB_size (some ⟨w.heap.size, 0, none⟩) (some x) zs.length zs.length zs.length cap rfl rfl w.heap.size 0 _ 5 HN.out (zs.map (Value.int .u8)) H1.out (HC.out _ HB.out) H2.out H3.out w.heap.size w HB.out (Nat.le_refl _) ?_; intro w' hh hb')
    have HH := hh.out
    go_wp2
    go_ret
    refine ⟨some ⟨w.heap.size, 0, none⟩, zs.length, rfl, fun h0 => (by cases h0), fun x hx => ?_, fun h0 => ⟨w.heap.size, 0, rfl, fun i hi => ?_⟩, hb'⟩
    · injection hx with hx; subst hx; exact ⟨Nat.le_refl _, blk_lt HH⟩
    · refine blk_cell HH _ _ ?_
      simp only [splice, List.take_zero, List.nil_append, Nat.zero_add, List.getElem?_toArray]
      rw [List.getElem?_append_left (by simpa using hi), List.getElem?_map, List.getElem?_eq_getElem hi, List.getD_eq_getElem?_getD, List.getElem?_eq_getElem hi]; rfl


theorem zzNew_any (a : Option Addr) (c : Nat) (zs : List Int) (w : World) (h : RowInt .u8 w a zs) (hl : zs.length ≤ 140737488355328) (hb : ∀ z, z ∈ zs → 0 ≤ z ∧ z ≤ 255) :
    Calls Try.prog 12 #[.slice a zs.length c] w fun e w' => e = .returned (.pointer (some ⟨w.heap.size, 0, none⟩)) ∧ Scan w' w.heap.size a c zs 0 0 ∧ Below w.heap.size w w' := by
  have HR := Lib.hid h
  have HB := Lib.hid hb
  clear h hb
  go_enter Try.func12, Try.ntmps12
  go_wp2_with (go_at_call 16; refine (newScan_any _ _ _ _).mono ?_; rintro e w' ⟨rfl, rfl⟩)
  go_ret
  exact ⟨rfl, Scan.new HR.out hl HB.out, (Below.refl _ _).alloc (Nat.le_refl _) _⟩
theorem u8_bd {n : Int} (h : (Lit.int .u8 n).wf = true) : 0 ≤ n ∧ n ≤ 255 := bounds_u8 h
theorem Scan.of_heap {w w' : World} {b : Nat} {ao : Option Addr} {cap : Nat} {zs : List Int} {c s : Nat} (h : Scan w b ao cap zs c s) (e : w'.heap = w.heap) : Scan w' b ao cap zs c s :=
  ⟨by rw [e]; exact h.blk, fun h0 => by
    obtain ⟨x, y, h1, h2, h3⟩ := h.src h0
    exact ⟨x, y, h1, h2, fun i hi => by have := h3 i hi; simpa [World.cell?, e] using this⟩, h.cb, h.sb, h.len, h.byte⟩
theorem Scan.drew {w : World} {b : Nat} {ao : Option Addr} {cap : Nat} {zs : List Int} {c s : Nat} (h : Scan w b ao cap zs c s) : Scan w.drew b ao cap zs c s := h.of_heap rfl
theorem next_is {w : World} {b : Nat} {ao : Option Addr} {cap : Nat} {zs : List Int} {c s : Nat} {v : Int} (h : Scan w b ao cap zs c s) (hk : chr zs c = v) :
    Calls Try.prog 14 #[.pointer (some ⟨b, 0, none⟩)] w fun e w' => e = .returned (.int .i64 v) ∧ Scan w' b ao cap zs (min (c + 1) (zs.length + 1)) s ∧ w.grownBy w' (some b) := hk ▸ next_any h
theorem peek_is {w : World} {b : Nat} {ao : Option Addr} {cap : Nat} {zs : List Int} {c s : Nat} {v : Int} (h : Scan w b ao cap zs c s) (hk : chr zs c = v) :
    Calls Try.prog 13 #[.pointer (some ⟨b, 0, none⟩)] w fun e w' => e = .returned (.int .i64 v) ∧ Scan w' b ao cap zs (peekC zs.length c) s ∧ w.grownBy w' (some b) := hk ▸ peek_any h
theorem chr_in {zs : List Int} {c : Nat} (h : c < zs.length) : chr zs c = zs.getD c 0 := by unfold chr; rw [if_pos h]
theorem chr_out {zs : List Int} {c : Nat} (h : zs.length ≤ c) : chr zs c = -1 := by unfold chr; rw [if_neg (by omega)]
theorem below_fin {w w1 w2 w3 : World} {g : Nat} (h1 : Below w.heap.size w w1) (h2 : Below g w1 w2) (hg : w1.heap.size = g) (h3 : w2.grownBy w3 (some g)) : Below w.heap.size w w3 := by
  subst hg
  exact h1.trans ((h2.mono h1.size).trans (one_below h3 h1.size (Nat.le_trans h1.size h2.size)))
theorem guard_any (a : Option Addr) (n cap : Nat) (a' : Option Addr) (n' cap' : Nat) (hn : n ≤ 9223372036854775807) (hn' : n' ≤ 9223372036854775807) (w : World) : Calls Try.prog 10 #[.slice a n cap, .slice a' n' cap'] w fun e w' => e = .returned (.bool (decide (n ≤ 1048576 ∧ n + n' ≤ 1048576))) ∧ w = w' := by
  rcases (show 1048576 < n ∨ (n ≤ 1048576 ∧ 1048576 < n') ∨ (n ≤ 1048576 ∧ n' ≤ 1048576 ∧ 1048576 < n + n') ∨ (n ≤ 1048576 ∧ n' ≤ 1048576 ∧ n + n' ≤ 1048576) by omega) with h | ⟨h, h'⟩ | ⟨h, h', h''⟩ | ⟨h, h', h''⟩
  all_goals
    go_enter Try.func10, Try.ntmps10
    go_wp2
    go_ret
    exact ⟨ret_bool (by simp; omega), rfl⟩

end Go.Proofs.Ytkkafhbdfflanaa
