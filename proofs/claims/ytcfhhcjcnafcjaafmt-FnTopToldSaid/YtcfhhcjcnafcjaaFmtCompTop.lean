/-
  The contract of compilePattern over a whole pattern. Its condition: the pattern lies in memory as told; the program has at most 2^24 instructions.
-/
import Derived.Test.YtcfhhcjcnafcjaaFmtCpA
import Derived.Test.YtcfhhcjcnafcjaaFmtCpB
namespace Go.Proofs.YtcfhhcjcnafcjaaFmt
open Go.RowKit
set_option linter.unusedVariables false
set_option linter.unusedSimpArgs false

theorem cp_rep (t : Int) (c : Cl) : CompSpec (.rep t c) := by
  by_cases h1 : t = 42
  · subst h1; exact cp_star c
  by_cases h2 : t = 43
  · subst h2; exact cp_plus c
  by_cases h3 : t = 45
  · subst h3; exact cp_minus c
  by_cases h4 : t = 63
  · subst h4; exact cp_opt c
  intro w v m g ao cap I k xs I' k' hc hp hg hr hl hk
  cases hr with
  | star _ => exact absurd rfl h1
  | plus _ => exact absurd rfl h2
  | minus _ => exact absurd rfl h3
  | opt _ => exact absurd rfl h4
theorem comp_all : ∀ n : Nat, (∀ p : Pt, SizeOf.sizeOf p ≤ n → CompSpec p) ∧ (∀ l : List Pt, SizeOf.sizeOf l ≤ n → SeqSpec l) := by
  intro n
  induction n with
  | zero =>
    refine ⟨fun p h => ?_, fun l h => ?_⟩
    · cases p <;> simp at h
    · cases l <;> simp at h
  | succ n ih =>
    refine ⟨fun p h => ?_, fun l h => ?_⟩
    · cases p with
      | one c => exact cp_one c
      | rep t c => exact cp_rep t c
      | pos => exact cp_pos
      | cap l => exact cp_cap l (ih.2 l (by simp at h; omega))
      | num z => exact cp_num z
      | brace y z => exact cp_brace y z
    · refine cp_seq l fun p hp => ?_
      have := List.sizeOf_lt_of_mem hp
      exact ih.1 p (by omega)
theorem comp_item (p : Pt) : CompSpec p := (comp_all (SizeOf.sizeOf p)).1 p (Nat.le_refl _)

/-- The program of a pattern. -/
def progOf (tail : Bool) (I : List Ins) : List Ins := (if tail then I ++ [.save 1, .tmat] else I) ++ [.save 1, .mat]
@[go_sem] theorem ta_top (v : Value) (w : World) : (Instr.typeAssert (.iface 66 v) 105 66 false).run Tryf.prog w = .ok v w := by kernel_rfl
/-- A program as it lies in memory, in new blocks. -/
def ProgPost (w : World) (J : List Ins) (e : Ending) (w' : World) : Prop :=
  ∃ (m : Nat) (ao : Option Addr) (cap : Nat) (ys : List Value), e = .returned (.slice ao J.length cap) ∧ w'.ownsRow 0 123 4 (.slice ao J.length cap) J.length ys ∧ InssAt (CX m ao) w' J ys ∧ Below w.heap.size w w' ∧ (∀ g, blkOf ao = some g → w.heap.size ≤ g) ∧ w.heap.size ≤ m
theorem comp_start (w : World) : CompO ((w.alloc (.cells #[.int .i64 5, .nilIface, .int .i64 0, .int .i64 (-1)] 123)).alloc (.cells #[.slice (some ⟨w.heap.size, 0, none⟩) 1 1, .int .i64 2] 125)) (w.heap.size + 1) (some ⟨w.heap.size, 0, none⟩) 1 [.save 0] 2 [.int .i64 5, .nilIface, .int .i64 0, .int .i64 (-1)] := by
  have s1 : (w.alloc (.cells #[.int .i64 5, .nilIface, .int .i64 0, .int .i64 (-1)] 123)).heap.size = w.heap.size + 1 := by simp
  have b2 := blk_new (w.alloc (.cells #[.int .i64 5, .nilIface, .int .i64 0, .int .i64 (-1)] 123)) (.cells #[.slice (some ⟨w.heap.size, 0, none⟩) 1 1, .int .i64 2] 125)
  rw [s1] at b2
  exact ⟨b2, ⟨rfl, .inr ⟨w.heap.size, 1, _, rfl, Nat.zero_le _, blk_alloc (blk_new _ _) _, Nat.le_refl _, by decide, rfl, rfl⟩⟩, InssAt.one .save⟩
theorem moved_old {w w' : World} {o1 o2 : Obj} {m : Nat} {ao ao' : Option Addr} (h : Moved ((w.alloc o1).alloc o2) w' m ao ao') (hm : w.heap.size ≤ m) (hao : ∀ g, blkOf ao = some g → w.heap.size ≤ g) : Below w.heap.size w w' ∧ ∀ g, blkOf ao' = some g → w.heap.size ≤ g :=
  ⟨(((Below.refl w.heap.size w).alloc (Nat.le_refl _) o1).alloc (by simp) o2).trans (h.below hm hao (by simp; omega)), h.rowB hao (by simp; omega)⟩
theorem progPost_mk {w w' : World} {m k L : Nat} {ao : Option Addr} {cap : Nat} {I J : List Ins} {ys : List Value} (hJ : J = I) (hL : J.length = L) (h : CompO w' m ao cap I k ys) (h2 : Below w.heap.size w w' ∧ ∀ g, blkOf ao = some g → w.heap.size ≤ g) (hm : w.heap.size ≤ m) : ProgPost w J (.returned (.slice ao L cap)) w' := by
  subst hJ hL
  exact ⟨m, ao, cap, ys, rfl, h.own, h.els, h2.1, h2.2, hm⟩
set_option maxHeartbeats 4000000 in
set_option maxRecDepth 1000000 in
theorem compTop_any {w : World} {q : Nat} {must tail : Bool} {aq : Option Addr} {capq : Nat} {l : List Pt} {us : List Value} {I' : List Ins} {k' : Nat} (hq2 : w.heap[q]? = some (.cells #[.bool must, .bool tail, .slice aq l.length capq] 76 (0, 0))) (hrow : w.ownsRow 0 105 1 (.slice aq l.length capq) l.length us)
    (hpts : PtsAt (fun _ => False) w l us) (hr : CRun l [.save 0] 2 I' k') (hl : I'.length ≤ 8388608) (hk : k' ≤ 1073741824) :
    Calls Tryf.prog 20 #[.iface 66 (.pointer (some ⟨q, 0, none⟩)), .slice none 0 0] w (ProgPost w (progOf tail I')) := by
  obtain ⟨i0, hi, hz0, hz1, hz2⟩ := info_parts inst_info
  have hCX : ∀ x, x < w.heap.size → ¬ CX (w.heap.size + 1) (some ⟨w.heap.size, 0, none⟩) x := fun x hx h => by
    rcases h with h | h
    · omega
    · simp only [blkOf, Option.map_some, Option.some.injEq] at h; omega
  have hlmax : l.length ≤ 9223372036854775807 := by
    rcases hrow.2 with ⟨_, h2⟩ | ⟨g', c, cur, h1, hb, hg, hn, hm, _⟩
    · omega
    · unfold maxLen at hm; omega
  have hq1 : ¬ CX (w.heap.size + 1) (some ⟨w.heap.size, 0, none⟩) q := hCX q (blk_lt hq2)
  have hrx : ∀ gg, blkOf aq = some gg → ¬ CX (w.heap.size + 1) (some ⟨w.heap.size, 0, none⟩) gg := fun gg hgg => hCX gg (owns_lt hrow gg hgg).2
  have HC := Lib.hid (comp_start w)
  have HW := Lib.hid (Moved.refl ((w.alloc (.cells #[.int .i64 5, .nilIface, .int .i64 0, .int .i64 (-1)] 123)).alloc (.cells #[.slice (some ⟨w.heap.size, 0, none⟩) 1 1, .int .i64 2] 125)) (w.heap.size + 1) (some ⟨w.heap.size, 0, none⟩))
  have HO : Hid (∀ (w' : World) (ao' : Option Addr), Moved ((w.alloc (.cells #[.int .i64 5, .nilIface, .int .i64 0, .int .i64 (-1)] 123)).alloc (.cells #[.slice (some ⟨w.heap.size, 0, none⟩) 1 1, .int .i64 2] 125)) w' (w.heap.size + 1) (some ⟨w.heap.size, 0, none⟩) ao' → Below w.heap.size w w' ∧ ∀ g, blkOf ao' = some g → w.heap.size ≤ g) :=
    Lib.hid (fun w' ao' h => moved_old h (by omega) (fun g hg => by simp only [blkOf, Option.map_some, Option.some.injEq] at hg; omega))
  have HR := Lib.hid hr
  have HQ2 := Lib.hid (blk_alloc (blk_alloc hq2 (.cells #[.int .i64 5, .nilIface, .int .i64 0, .int .i64 (-1)] 123)) (.cells #[.slice (some ⟨w.heap.size, 0, none⟩) 1 1, .int .i64 2] 125))
  have HQ1 := Lib.hid hq1
  have HROW := Lib.hid ((hrow.alloc (.cells #[.int .i64 5, .nilIface, .int .i64 0, .int .i64 (-1)] 123)).alloc (.cells #[.slice (some ⟨w.heap.size, 0, none⟩) 1 1, .int .i64 2] 125))
  have HRX := Lib.hid hrx
  have HPTS : Hid (PtsAt (CX (w.heap.size + 1) (some ⟨w.heap.size, 0, none⟩)) ((w.alloc (.cells #[.int .i64 5, .nilIface, .int .i64 0, .int .i64 (-1)] 123)).alloc (.cells #[.slice (some ⟨w.heap.size, 0, none⟩) 1 1, .int .i64 2] 125)) l us) :=
    Lib.hid (hpts.kept (fun x o _ ho => blk_alloc (blk_alloc ho _) _) (fun x hx h => hCX x hx h))
  have HALL : Hid (∀ p, p ∈ l → CompSpec p) := Lib.hid (fun p _ => comp_item p)
  clear hr hq1 hq2 hrow hrx hpts hCX
  go_enter Tryf.func20, Tryf.ntmps20
  go_upto_region 13 with (fail)
  generalize (w.alloc (.cells #[.int .i64 5, .nilIface, .int .i64 0, .int .i64 (-1)] 123)).alloc (.cells #[.slice (some ⟨w.heap.size, 0, none⟩) 1 1, .int .i64 2] 125) = w0 at *
  have kq := blk_cell HQ2.out 2 _ rfl
  generalize hm0 : w.heap.size + 1 = m at *
  generalize hao0 : (some ⟨w.heap.size, 0, none⟩ : Option Addr) = ao at *
  have hk0 : w.heap.size ≤ m := by omega
  clear hm0 hao0
  go_wp2_with fail
  go_loopg [55] l.length (fun j v wr => ∃ i : Nat, j = l.length - i ∧ v = .int .i64 i ∧ i ≤ l.length ∧ Hid (∃ ao2 cap2 I2 k2 xs2, CompO wr m ao2 cap2 I2 k2 xs2 ∧ Moved w0 wr m ao ao2 ∧ CRun (l.drop i) I2 k2 I' k'))
  case atStart => exact ⟨0, rfl, rfl, Nat.zero_le _, Lib.hid ⟨_, _, _, _, _, HC.out, Moved.refl _ _ _, HR.out⟩⟩
  case round =>
    obtain ⟨i, rfl, rfl, hil, HX⟩ := hrel
    obtain ⟨ao2, cap2, I2, k2, xs2, hc2, hm2, hr2⟩ := HX.out
    clear HX kq
    by_cases hlt : i < l.length
    · rw [List.drop_eq_getElem_cons hlt] at hr2
      obtain ⟨I3, k3, hr3, hr4⟩ := hr2.head
      obtain ⟨v, hv, hpv⟩ := HPTS.out.get i hlt
      obtain ⟨gq, rfl⟩ : ∃ gq, aq = some ⟨gq, 0, none⟩ := by
        rcases HROW.out.2 with ⟨_, h2⟩ | ⟨gq, c', cur, h1, _⟩
        · omega
        · simp only [Value.slice.injEq] at h1; exact ⟨gq, h1.1⟩
      have kv : wr.cell? ⟨gq, i, none⟩ = some v := ((hm2.row0 HROW.out HRX.out).cellAt i (by omega)).trans hv
      have hg4 := hr4.grows
      have hlI : I3.length ≤ 16777216 := by omega
      have hlk : k3 ≤ 1073741824 := by omega
      have HM3 := Lib.hid (hm2.alloc (.cells #[.pointer (some ⟨m, 0, none⟩)] 120))
      have HSP : Hid (Calls Tryf.prog 20 #[v, .slice (some ⟨wr.heap.size, 0, none⟩) 1 1] (wr.alloc (.cells #[.pointer (some ⟨m, 0, none⟩)] 120)) (CompPost (wr.alloc (.cells #[.pointer (some ⟨m, 0, none⟩)] 120)) m ao2 I3 k3)) :=
        Lib.hid (HALL.out _ (List.getElem_mem hlt) _ v m wr.heap.size ao2 cap2 I2 k2 xs2 I3 k3 (hc2.alloc _) (HM3.out.pts hpv) (blk_cell (blk_new _ _) 0 _ rfl) hr3 hlI hlk)
      have HR4 := Lib.hid hr4
      clear hr2 hr3 hr4 hv hpv hc2 hm2 hg4 hlI hlk
      go_wp2_with fail
      refine HSP.out.mono ?_
      rintro e w6 ⟨ao6, cap6, xs6, rfl, hc6, hm6⟩
      have HN := Lib.hid (show ∃ ao2 cap2 I2 k2 xs2, CompO w6 m ao2 cap2 I2 k2 xs2 ∧ Moved w0 w6 m ao ao2 ∧ CRun (l.drop (i + 1)) I2 k2 I' k' from ⟨_, _, _, _, _, hc6, HM3.out.trans hm6, HR4.out⟩)
      clear hc6 hm6
      go_wp2_with fail
      go_roundg (l.length - (i + 1))
      case measure => omega
      case rel => exact ⟨i + 1, rfl, rfl, by omega, HN⟩
    · obtain rfl : i = l.length := by omega
      rw [List.drop_length] at hr2
      cases hr2
      have HC2 := Lib.hid hc2
      have HM2 := Lib.hid hm2
      have kt := blk_cell (hm2.keeps q _ HQ1.out HQ2.out) 1 _ rfl
      clear hc2 hm2
      cases tail with
      | false =>
        have k0 := blk_cell HC2.out.blk 0 _ rfl
        have hrw := HC2.out.row
        have HRW := Lib.hid hrw
        clear hrw
        go_upto_region 51 with (at_builtin; refine wpList_push _ rfl (.tmp 294) (.tmp 297) 70 rfl 0 123 i0 (.agg #[.int .i64 0, .nilIface, .int .i64 0, .int .i64 0]) 4 40 Tryf.underlying70 hi hz0 hz1 hz2 rfl (by decide) ao2 I'.length cap2 xs2 rfl (HC2.out.own.alloc _) ⟨wr.heap.size, 0, none⟩ 2 2 [.int .i64 5, .nilIface, .int .i64 1, .int .i64 (-1), .int .i64 1, .nilIface, .int .i64 (-1), .int .i64 (-1)] rfl rfl (news_n rfl) (by simp [Value.oneCell']) (by decide) (by unfold maxLen; omega) (by omega) (Nat.zero_le _) ?_; intro g1 c1 w8 hown hgrow hwhere; have HO' := Lib.hid hown; have HGw := Lib.hid hgrow; have HWh := Lib.hid hwhere; clear hown hgrow hwhere; have hb8 := blk_grown (blk_alloc HC2.out.blk _) HGw.out (fun e => by have := HRW.out _ e.symm; omega); have k8 : w8.cell? ⟨m, 0, none⟩ = some (.slice ao2 I'.length cap2) := blk_cell hb8 0 _ rfl; have f8 : w8.frozen? ⟨m, 0, none⟩ = false := blk_free hb8 0; clear hb8)
        have hpush := (HC2.out.alloc (.cells #[.int .i64 5, .nilIface, .int .i64 1, .int .i64 (-1), .int .i64 1, .nilIface, .int .i64 (-1), .int .i64 (-1)] 123)).push (n := 2) (J := [.save 1, .mat]) (InssAt.cons (i := .save 1) .save (InssAt.one .mat)) rfl HGw.out HO'.out (HWh.out.imp id (fun h => by simpa using h))
        have HC9 := Lib.hid hpush.1
        have HM9 := Lib.hid (HO.out _ _ (HM2.out.trans (((Moved.refl wr m ao2).alloc (.cells #[.int .i64 5, .nilIface, .int .i64 1, .int .i64 (-1), .int .i64 1, .nilIface, .int .i64 (-1), .int .i64 (-1)] 123)).trans hpush.2)))
        generalize w8.setCell ⟨m, 0, none⟩ (.slice (some ⟨g1, 0, none⟩) (I'.length + 2) c1) = w9 at *
        clear hpush k8 f8 HO' HGw HWh HC2 HM2 k0 HRW
        have k9 := blk_cell HC9.out.blk 0 _ rfl
        go_wp2_with fail
        go_ret
        exact progPost_mk (by simp [progOf]) (by simp [progOf]) HC9.out HM9.out hk0
      | true =>
        have k0 := blk_cell HC2.out.blk 0 _ rfl
        have hrw := HC2.out.row
        have HRW := Lib.hid hrw
        clear hrw
        go_upto_region 50 with (at_builtin; refine wpList_push _ rfl (.tmp 283) (.tmp 286) 70 rfl 0 123 i0 (.agg #[.int .i64 0, .nilIface, .int .i64 0, .int .i64 0]) 4 40 Tryf.underlying70 hi hz0 hz1 hz2 rfl (by decide) ao2 I'.length cap2 xs2 rfl (HC2.out.own.alloc _) ⟨wr.heap.size, 0, none⟩ 2 2 [.int .i64 5, .nilIface, .int .i64 1, .int .i64 (-1), .int .i64 2, .nilIface, .int .i64 (-1), .int .i64 (-1)] rfl rfl (news_n rfl) (by simp [Value.oneCell']) (by decide) (by unfold maxLen; omega) (by omega) (Nat.zero_le _) ?_; intro g1 c1 w8 hown hgrow hwhere; have HO' := Lib.hid hown; have HGw := Lib.hid hgrow; have HWh := Lib.hid hwhere; clear hown hgrow hwhere; have hb8 := blk_grown (blk_alloc HC2.out.blk _) HGw.out (fun e => by have := HRW.out _ e.symm; omega); have k8 : w8.cell? ⟨m, 0, none⟩ = some (.slice ao2 I'.length cap2) := blk_cell hb8 0 _ rfl; have f8 : w8.frozen? ⟨m, 0, none⟩ = false := blk_free hb8 0; clear hb8)
        have hpush := (HC2.out.alloc (.cells #[.int .i64 5, .nilIface, .int .i64 1, .int .i64 (-1), .int .i64 2, .nilIface, .int .i64 (-1), .int .i64 (-1)] 123)).push (n := 2) (J := [.save 1, .tmat]) (InssAt.cons (i := .save 1) .save (InssAt.one .tmat)) rfl HGw.out HO'.out (HWh.out.imp id (fun h => by simpa using h))
        have HC3 := Lib.hid hpush.1
        have HM3 := Lib.hid (HM2.out.trans (((Moved.refl wr m ao2).alloc (.cells #[.int .i64 5, .nilIface, .int .i64 1, .int .i64 (-1), .int .i64 2, .nilIface, .int .i64 (-1), .int .i64 (-1)] 123)).trans hpush.2))
        have hl3 : (I' ++ [Ins.save 1, Ins.tmat]).length = I'.length + 2 := by simp
        have HL3 := Lib.hid hl3
        generalize w8.setCell ⟨m, 0, none⟩ (.slice (some ⟨g1, 0, none⟩) (I'.length + 2) c1) = w9 at *
        clear hpush k8 f8 HO' HGw HWh HC2 HM2 k0 HRW hl3 kt
        have HOWN : Hid (w9.ownsRow 0 123 4 (.slice (some ⟨g1, 0, none⟩) (I'.length + 2) c1) (I'.length + 2) (xs2 ++ [.int .i64 5, .nilIface, .int .i64 1, .int .i64 (-1), .int .i64 2, .nilIface, .int .i64 (-1), .int .i64 (-1)])) := by have := HC3.out.own; rw [HL3.out] at this; exact Lib.hid this
        have HBK : Hid (w9.heap[m]? = some (.cells #[.slice (some ⟨g1, 0, none⟩) (I'.length + 2) c1, .int .i64 k'] 125 (0, 0))) := by have := HC3.out.blk; rw [HL3.out] at this; exact Lib.hid this
        have k0 := blk_cell HBK.out 0 _ rfl
        have hrw := HC3.out.row
        have HRW := Lib.hid hrw
        clear hrw
        go_upto_region 51 with (at_builtin; refine wpList_push _ rfl (.tmp 294) (.tmp 297) 70 rfl 0 123 i0 (.agg #[.int .i64 0, .nilIface, .int .i64 0, .int .i64 0]) 4 40 Tryf.underlying70 hi hz0 hz1 hz2 rfl (by decide) _ (I'.length + 2) _ _ rfl (HOWN.out.alloc _) ⟨w9.heap.size, 0, none⟩ 2 2 [.int .i64 5, .nilIface, .int .i64 1, .int .i64 (-1), .int .i64 1, .nilIface, .int .i64 (-1), .int .i64 (-1)] rfl rfl (news_n rfl) (by simp [Value.oneCell']) (by decide) (by unfold maxLen; omega) (by omega) (Nat.zero_le _) ?_; intro g2 c2 w8 hown hgrow hwhere; have HO' := Lib.hid hown; have HGw := Lib.hid hgrow; have HWh := Lib.hid hwhere; clear hown hgrow hwhere; have hb8 := blk_grown (blk_alloc HBK.out _) HGw.out (fun e => by have := HRW.out _ e.symm; omega); have k8 := blk_cell hb8 0 _ rfl; have f8 : w8.frozen? ⟨m, 0, none⟩ = false := blk_free hb8 0; clear hb8)
        have hpush := (HC3.out.alloc (.cells #[.int .i64 5, .nilIface, .int .i64 1, .int .i64 (-1), .int .i64 1, .nilIface, .int .i64 (-1), .int .i64 (-1)] 123)).push (g' := g2) (cap' := c2) (n := 2) (J := [.save 1, .mat]) (InssAt.cons (i := .save 1) .save (InssAt.one .mat)) rfl HGw.out (by rw [HL3.out]; exact HO'.out) (HWh.out.imp id (fun h => by simpa using h))
        rw [HL3.out] at hpush
        have HC9 := Lib.hid hpush.1
        have HM9 := Lib.hid (HO.out _ _ (HM3.out.trans (((Moved.refl w9 m _).alloc (.cells #[.int .i64 5, .nilIface, .int .i64 1, .int .i64 (-1), .int .i64 1, .nilIface, .int .i64 (-1), .int .i64 (-1)] 123)).trans hpush.2)))
        generalize w8.setCell ⟨m, 0, none⟩ (.slice (some ⟨g2, 0, none⟩) (I'.length + 2 + 2) c2) = w10 at *
        clear hpush k8 f8 HO' HGw HWh HC3 HM3 k0 HRW
        have k9 := blk_cell HC9.out.blk 0 _ rfl
        go_wp2_with fail
        go_ret
        exact progPost_mk (by simp [progOf]) (by simp [progOf]) HC9.out HM9.out hk0

end Go.Proofs.YtcfhhcjcnafcjaaFmt
