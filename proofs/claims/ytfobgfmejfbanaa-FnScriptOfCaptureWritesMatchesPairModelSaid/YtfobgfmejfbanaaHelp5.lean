/-
  The contracts of the helpers of n005_5: the copies, the exported makers and writers of a MatchData, the guards. Their condition: slots up to 2^30.
-/
import Derived.Test.YtfobgfmejfbanaaMatchAdd
import Derived.Test.YtfobgfmejfbanaaMatchSet
import Derived.Test.YtfobgfmejfbanaaMatchRestore
import Derived.Test.YtfobgfmejfbanaaMatchLen
import Derived.Test.YtfobgfmejfbanaaMatchRead
import Derived.Test.YtfobgfmejfbanaaMatchNew
import Derived.LaidEqlPtr
namespace Go.Proofs.Ytfobgfmejfbanaa
open Go.RowKit
set_option linter.unusedVariables false
set_option linter.unusedSimpArgs false

theorem copyU_info : (Try.prog.info? 29).map (fun i => (i.zero, i.size, i.bytes)) = some (some (.int .u32 0), 1, 4) := by kernel_rfl
set_option maxHeartbeats 400000 in
/-- A copy by hand of a slice of integers: the same numbers in new memory; nothing that was there is written. -/
theorem copyU_any (a : Option Addr) (cap : Nat) (zs : List Int) (w : World) (h : RowInt .u32 w a zs) (hnil : a = none → zs.length = 0) (hl : zs.length ≤ 4194304) :
    Calls Try.prog 8 #[.slice a zs.length cap] w (CopiedOwn w zs) := by
  have qT : ∀ (w : World) (a : Option Addr) (n c n' c' : Nat), (binOp .eql 22 (.slice a n c) (.slice none n' c')).run Try.prog w = .ok (.bool a.isNone) w := fun w a n c n' c' => Lib.run_eql_slice_nil w _ _ a n c n' c' Try.underlying22
  cases a with
  | none =>
    have hz : zs = [] := List.length_eq_zero_iff.1 (hnil rfl)
    subst hz
    clear h hnil hl
    go_enter Try.func8, Try.ntmps8
    go_wp2
    go_ret
    exact ⟨none, 0, rfl, fun _ hx => (by cases hx), World.ownsRow_nil _ _ _ _, fun h0 => absurd h0 (Nat.lt_irrefl _), Below.refl _ _⟩
  | some x =>
    clear hnil
    have hmk := fun W => run_make_row' (P := Try.prog) 22 29 (.int .u32 0) 4 Try.underlying22 copyU_info rfl .i64 .i64 zs.length (by omega) (by omega) W
    have hcell : ∀ j, j < zs.length → w.cell? (x.add j) = some (.int .u32 (zs.getD j 0)) := fun j hj => by
      obtain ⟨b, off, h1, h2⟩ := h (by omega)
      injection h1 with h1; subst h1; rw [addr_add]; exact h2 j hj
    have HC := Lib.hid hcell
    clear hcell h
    generalize hn : zs.length = n at *
    have HN := Lib.hid hn
    clear hn
    go_enter Try.func8, Try.ntmps8
    go_wp2
    go_loopw [4] (fun i wr => ∃ k : Nat, k ≤ n ∧ i = .int .i64 k ∧ wr.rowIs w.heap.size 29 n (fun j => if j < k then .int .u32 (zs.getD j 0) else .int .u32 0) ∧ Below w.heap.size w wr)
      (fun i _ => n - (intOf i).toNat)
    case atStart => exact ⟨0, Nat.zero_le _, rfl, (World.rowIs_made w (.int .u32 0) n 29).congr (fun i _ => by simp), (Below.refl _ _).alloc (Nat.le_refl _) _⟩
    case round =>
      obtain ⟨k, hk, rfl, hrow, hbel⟩ := hrel
      by_cases hlt : k < n
      · have hx : wr.cell? (x.add k) = some (.int .u32 (zs.getD k 0)) := by
          have h1 := HC.out k hlt
          exact (hbel.cell (lt_of_cell h1)).trans h1
        have hc0 : ∃ u : Int, wr.cell? ⟨w.heap.size, k, none⟩ = some (.int .u32 u) := ⟨0, by have := hrow.cell hlt; simpa using this⟩
        obtain ⟨u, hc⟩ := hc0
        have hf := hrow.frozen k
        have HR := Lib.hid hrow
        clear hrow
        go_wp2
        go_roundw
        case rel => exact ⟨k + 1, by omega, by go_num, (HR.out.set k _).congr (fun i _ => by split <;> (try split) <;> (try split) <;> first | rfl | (subst_vars; rfl) | omega), hbel.setCell (Nat.le_refl _) _⟩
        case measure => simp [intOf]; omega
      · obtain rfl : k = n := by omega
        have HR := Lib.hid hrow
        clear hrow
        go_wp2
        go_ret
        refine ⟨some ⟨w.heap.size, 0, none⟩, k, by rw [HN.out]; rfl, fun x hx => ?_, owns_of_row HR.out HN.out (by unfold maxLen; omega) (Nat.le_refl _) (fun i hi => if_pos hi), RowInt.of_row HR.out (by rw [HN.out]; exact Nat.le_refl _) (fun i hi => ?_), hbel⟩
        · injection hx with hx; subst hx; exact ⟨Nat.le_refl _, HR.out.lt⟩
        · rw [if_pos (by rw [HN.out] at hi; exact hi)]


theorem zzND_any (ao : Option Addr) (n cap : Nat) (w : World) : Calls Try.prog 9 #[.slice ao n cap] w fun e w' => e = .returned (.pointer (some ⟨w.heap.size, 0, none⟩)) ∧ w.alloc (.cells #[.slice ao n cap] 44) = w' := by
  go_enter Try.func9, Try.ntmps9
  go_wp2
  go_ret
  exact ⟨rfl, rfl⟩
theorem MD.new {w : World} {ao : Option Addr} {cap : Nat} {us : List Int} (h : w.ownsRow 0 29 1 (.slice ao us.length cap) us.length (us.map (Value.int .u32))) (hb : ∀ u, u ∈ us → 0 ≤ u ∧ u < 4294967296) (hl : us.length ≤ 2147483648) :
    MD (w.alloc (.cells #[.slice ao us.length cap] 44)) w.heap.size ao cap us := ⟨blk_new _ _, h.alloc _, hb, hl⟩
theorem zzNS_any (w : World) : Calls Try.prog 21 #[] w fun e w' => e = .returned (.pointer (some ⟨w.heap.size + 1, 0, none⟩)) ∧ MD w' (w.heap.size + 1) (some ⟨w.heap.size, 0, none⟩) 0 [] ∧ Below w.heap.size w w' ∧ w'.heap.size = w.heap.size + 2 := by
  go_enter Try.func21, Try.ntmps21
  go_wp2_with (go_at_call 27; refine (newMatch_any _).mono ?_; rintro e w' ⟨rfl, h1, h2, h3⟩)
  go_ret
  exact ⟨rfl, h1, h2, h3⟩
section
variable {w : World} {m cap s : Nat} {ao : Option Addr} {us : List Int}
theorem zzAdd_any (p : Int) (h : MD w m ao cap us) (hs : s ≤ 1073741824) :
    Calls Try.prog 22 #[.pointer (some ⟨m, 0, none⟩), .int .i64 (s : Int), .int .i64 p] w fun e w' => e = .returned (.tuple #[]) ∧ ∃ ao' cap', MD w' m ao' cap' (((ext us (s + 2)).set s (posW p)).set (s + 1) (posW p)) ∧ Moved w w' m ao ao' := by
  have H := Lib.hid h
  clear h
  go_enter Try.func22, Try.ntmps22
  go_wp2_with (go_at_call 28; refine (addPos_any p H.out hs).mono ?_; rintro e w' ⟨rfl, ao', cap', h1, h2⟩)
  go_end0
  exact ⟨rfl, ao', cap', h1, h2⟩
theorem zzSet_any (p : Int) (h : MD w m ao cap us) (hs : s ≤ 1073741824) :
    Calls Try.prog 14 #[.pointer (some ⟨m, 0, none⟩), .int .i64 (s : Int), .int .i64 p] w fun e w' => e = .returned (.int .u32 ((ext us (s + 1)).getD s 0)) ∧ ∃ ao' cap', MD w' m ao' cap' ((ext us (s + 1)).set s (capW p)) ∧ Moved w w' m ao ao' := by
  have H := Lib.hid h
  clear h
  go_enter Try.func14, Try.ntmps14
  go_wp2_with (go_at_call 25; refine (setCap_any p H.out hs).mono ?_; rintro e w' ⟨rfl, ao', cap', h1, h2⟩)
  go_ret
  exact ⟨rfl, ao', cap', h1, h2⟩
theorem zzRest_any (u : Int) (h : MD w m ao cap us) (hi : s < us.length) (hu : 0 ≤ u ∧ u < 4294967296) :
    Calls Try.prog 15 #[.pointer (some ⟨m, 0, none⟩), .int .i64 (s : Int), .int .u32 u] w fun e w' => e = .returned (.tuple #[]) ∧ MD w' m ao cap (us.set s u) ∧ Moved w w' m ao ao := by
  have H := Lib.hid h
  clear h
  go_enter Try.func15, Try.ntmps15
  go_wp2_with (go_at_call 26; refine (restCap_any s u H.out hi hu).mono ?_; rintro e w' ⟨rfl, h1, h2⟩)
  go_end0
  exact ⟨rfl, h1, h2⟩
end
theorem u32_bd {n : Int} (h : (Lit.int .u32 n).wf = true) : 0 ≤ n ∧ n < 4294967296 := by have := bounds_u32 h; omega
theorem g1_any (a : Option Addr) (n cap : Nat) (hn : n ≤ 9223372036854775807) (w : World) : Calls Try.prog 7 #[.slice a n cap] w fun e w' => e = .returned (.bool (decide (n ≤ 1048576))) ∧ w = w' := by
  by_cases h : n ≤ 1048576
  all_goals
    go_enter Try.func7, Try.ntmps7
    go_wp2
    go_ret
    exact ⟨ret_bool (by simp; omega), rfl⟩
theorem g2_any (a : Option Addr) (n cap : Nat) (x y : Int) (hn : n ≤ 9223372036854775807) (w : World) : Calls Try.prog 13 #[.slice a n cap, .int .i64 x, .int .i64 y] w fun e w' => e = .returned (.bool (decide (n ≤ 1048576))) ∧ w = w' := by
  by_cases h : n ≤ 1048576
  all_goals
    go_enter Try.func13, Try.ntmps13
    go_wp2
    go_ret
    exact ⟨ret_bool (by simp; omega), rfl⟩
theorem MD.drew {w : World} {m cap : Nat} {ao : Option Addr} {us : List Int} (h : MD w m ao cap us) : MD w.drew m ao cap us := ⟨h.blk, h.own, h.bd, h.len⟩
theorem MD.drewN {w : World} {m cap : Nat} {ao : Option Addr} {us : List Int} (h : MD w m ao cap us) (n : Nat) : MD (w.drewN n) m ao cap us := ⟨h.blk, h.own, h.bd, h.len⟩
theorem Moved.of_drew {a b : World} {m : Nat} {x y : Option Addr} (h : Moved a.drew b m x y) : Moved a b m x y := ⟨h.os, h.tape, h.output, h.size, h.block, h.row⟩

theorem own_nil {w : World} {B : Nat} {T : TypeId} {a : Option Addr} {c : Nat} {ys : List Int} (h : w.ownsRow B T 1 (.slice a ys.length c) ys.length (ys.map (Value.int .u32))) : a = none → ys.length = 0 := by
  rintro rfl
  rcases h.2 with ⟨_, h2⟩ | ⟨g, c', cur, h1, _⟩
  · exact h2
  · simp at h1
theorem own_block {w : World} {B : Nat} {T : TypeId} {a : Option Addr} {n c : Nat} {xs : List Value} (h : w.ownsRow B T 1 (.slice a n c) n xs) : ∀ g, blkOf a = some g → B ≤ g ∧ g < w.heap.size := by
  intro g hg
  rcases h.2 with ⟨h1, h2⟩ | ⟨g', c', cur, h1, hb, hh, _⟩
  · simp only [Value.slice.injEq] at h1; rw [h1.1] at hg; simp [blkOf] at hg
  · simp only [Value.slice.injEq] at h1
    rw [h1.1] at hg
    simp only [blkOf, Option.map_some, Option.some.injEq] at hg
    subst hg
    exact ⟨hb, blk_lt hh⟩

end Go.Proofs.Ytfobgfmejfbanaa
