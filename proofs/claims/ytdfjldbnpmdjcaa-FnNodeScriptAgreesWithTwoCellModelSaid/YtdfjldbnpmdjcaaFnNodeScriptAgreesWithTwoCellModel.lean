/-
  The given statement on FnNodeScriptAgreesWithTwoCellModel: for every input the law returns true and leaves its arguments as they were. No condition beyond the statement's own.
  The frame was written by the kit's proof-skeleton.
-/
import Derived.Test.YtdfjldbnpmdjcaaNode
import Derived.Deep.CutRange
import Derived.Deep.DeepCutAuto
import Derived.Test.YtdfjldbnpmdjcaaRows
import Derived.WalkKit
import Derived.ProofKit
import Derived.OpenShut
import Derived.ShutString
import Derived.ChangeOld
import Derived.Below
namespace Go.Proofs.Ytdfjldbnpmdjcaa.fnNodeScriptAgreesWithTwoCellModel
open Go.ChangeShapes Go.WideShapes Go.ChangeAt Go.RowKit
open Go.ChangeMaps (open_string shut_string)
set_option linter.unusedVariables false

theorem own : ownKnob Try.prog.godebug = none := by kernel_rfl
theorem laidOut : laidOutB Try.prog = true := by kernel_rfl

/-- WHAT THE WALK IS TOLD OF A SLICE OF INTEGERS THAT CAME IN: it is nil; or it leads to a row of 'cap' cells, the numbers 'zs' (the first 'len' are its elements, the rest its spare room), each fitting its kind. -/
def IsRow (k : IntKind) (w : World) (a : Option Addr) (len cap : Nat) (zs : List Int) : Prop :=
  (a = none ∧ len = 0 ∧ cap = 0 ∧ zs = []) ∨
  ∃ x, a = some x ∧ len ≤ cap ∧ cap ≤ maxLen ∧ zs.length = cap ∧ (∀ i, i < zs.length → w.cell? (x.add i) = some (.int k (zs.getD i 0))) ∧ ∀ n ∈ zs, (Lit.int k n).wf = true

/-- What 'IsRow' says, over the elements alone. -/
theorem isRow_told {k : IntKind} {w : World} {a : Option Addr} {len cap : Nat} {zs : List Int} (h : IsRow k w a len cap zs) :
    ∃ ys : List Int, ys.length = len ∧ RowInt k w a ys ∧ (a = none → ys.length = 0) ∧ len ≤ 9223372036854775807 ∧ (∀ n, n ∈ ys → (Lit.int k n).wf = true) := by
  rcases h with ⟨rfl, rfl, rfl, rfl⟩ | ⟨x, rfl, hl, hm, hz, hcell, hwz⟩
  · exact ⟨[], rfl, fun h0 => absurd h0 (Nat.lt_irrefl _), fun _ => rfl, by omega, fun n hn => by simp at hn⟩
  · refine ⟨zs.take len, by simp; omega, fun h0 => ?_, fun h0 => (by cases h0), by unfold maxLen at hm; omega, fun n hn => hwz n (List.mem_of_mem_take hn)⟩
    have h0' : 0 < len := by simp at h0; omega
    have hsp : x.spot = none := by simpa [Addr.add] using World.cell?_spot (hcell 0 (by omega))
    obtain ⟨b, off, spot⟩ := x
    simp only at hsp
    subst hsp
    refine ⟨b, off, rfl, fun i hi => ?_⟩
    have h1 := hcell i (by simp at hi; omega)
    rw [addr_add] at h1
    rw [h1]
    simp only [List.length_take] at hi
    rw [List.getD_eq_getElem?_getD, List.getD_eq_getElem?_getD, List.getElem?_take_of_lt (by omega)]

theorem guardS_any (a b : Option Addr) (n c m d : Nat) (hn : n ≤ 9223372036854775807) (hm : m ≤ 9223372036854775807) (w : World) : Calls Try.prog 10 #[.slice a n c, .slice b m d] w fun e w' => e = .returned (.bool (decide (n ≤ 1048576 ∧ n + m ≤ 1048576))) ∧ w = w' := by
  rcases (show 1048576 < n ∨ (n ≤ 1048576 ∧ 1048576 < m) ∨ (n ≤ 1048576 ∧ m ≤ 1048576 ∧ 1048576 < n + m) ∨ (n ≤ 1048576 ∧ m ≤ 1048576 ∧ n + m ≤ 1048576) by omega) with h | ⟨h, h'⟩ | ⟨h, h', h''⟩ | ⟨h, h', h''⟩
  all_goals
    go_enter Try.func10, Try.ntmps10
    go_wp2
    go_ret
    exact ⟨ret_bool (by simp; omega), rfl⟩
theorem infoU : (Try.prog.info? 5).map (fun i => (i.zero, i.size, i.bytes)) = some (some (.int .u8 0), 1, 1) := by kernel_rfl
theorem infoI : (Try.prog.info? 3).map (fun i => (i.zero, i.size, i.bytes)) = some (some (.int .i64 0), 1, 8) := by kernel_rfl
/-- What lies in memory in the script's loop: the two nodes. -/
structure Two (w wr : World) (S bn : Nat) (x y : Int) : Prop where
  node : wr.heap[bn]? = some (.cells #[.int .i64 x, .int .i64 y] 24 (0, 0))
  stmt : wr.heap[bn + 1]? = some (.cells #[.int .i64 x, .int .i64 y, .nilIface] 44 (0, 0))
  bel : Below S w wr
theorem Two.line {w wr : World} {S bn : Nat} {x y : Int} (h : Two w wr S bn x y) (hS : S ≤ bn) (v : Int) : Two w ((wr.setCell ⟨bn, 0, none⟩ (.int .i64 v)).setCell ⟨bn + 1, 0, none⟩ (.int .i64 v)) S bn v y := by
  refine ⟨?_, ?_, (h.bel.setCell (p := ⟨bn, 0, none⟩) hS _).setCell (p := ⟨bn + 1, 0, none⟩) (by show S ≤ bn + 1; omega) _⟩
  · rw [Below.heap_setCell _ _ _ _ (show bn ≠ bn + 1 by omega)]; exact blk_set h.node 0 _
  · exact blk_set (b := bn + 1) ((Below.heap_setCell wr ⟨bn, 0, none⟩ _ (bn + 1) (show bn + 1 ≠ bn by omega)).trans h.stmt) 0 _
theorem Two.last {w wr : World} {S bn : Nat} {x y : Int} (h : Two w wr S bn x y) (hS : S ≤ bn) (v : Int) : Two w ((wr.setCell ⟨bn, 1, none⟩ (.int .i64 v)).setCell ⟨bn + 1, 1, none⟩ (.int .i64 v)) S bn x v := by
  refine ⟨?_, ?_, (h.bel.setCell (p := ⟨bn, 1, none⟩) hS _).setCell (p := ⟨bn + 1, 1, none⟩) (by show S ≤ bn + 1; omega) _⟩
  · rw [Below.heap_setCell _ _ _ _ (show bn ≠ bn + 1 by omega)]; exact blk_set h.node 1 _
  · exact blk_set (b := bn + 1) ((Below.heap_setCell wr ⟨bn, 1, none⟩ _ (bn + 1) (show bn + 1 ≠ bn by omega)).trans h.stmt) 1 _

/-! ### STEP 1: THE WALK: the Go text returns true, AND WRITES NOTHING THAT WAS THERE: 'Below w.heap.size w w'' (Derived/Below.lean: '.refl', '.alloc', '.drew', '.setCell' at a new block, '.trans'). Open each 'IsRow' by 'rcases' AHEAD of 'go_enter'; part every test ahead of the walk. -/
set_option maxHeartbeats 8000000
set_option maxRecDepth 100000
theorem walk (a0 : Option Addr) (len0 cap0 : Nat) (z0 : List Int) (a1 : Option Addr) (len1 cap1 : Nat) (z1 : List Int) (w : World) (w0 : IsRow .u8 w a0 len0 cap0 z0) (w1 : IsRow .i64 w a1 len1 cap1 z1) :
    Calls Try.prog 5 #[.slice a0 len0 cap0, .slice a1 len1 cap1] w fun e w' => e = .returned (.bool true) ∧ Below w.heap.size w w' := by
  obtain ⟨ys, rfl, hrow, hnil, hlen, hwf⟩ := isRow_told w0
  obtain ⟨vs, rfl, hrow', hnil', hlen', hwf'⟩ := isRow_told w1
  have HW := Lib.hid (fun z hz => bounds_u8 (hwf z hz) : ∀ z, z ∈ ys → 0 ≤ z ∧ z ≤ 255)
  have HR := Lib.hid hrow
  have HNI := Lib.hid hnil
  have HR' := Lib.hid hrow'
  have HNI' := Lib.hid hnil'
  clear w0 w1 hwf hwf' hrow hrow' hnil hnil'
  have qU : ∀ (w : World) (a : Option Addr) (n c n' c' : Nat), (binOp .neq 36 (.slice a n c) (.slice none n' c')).run Try.prog w = .ok (.bool (!a.isNone)) w := fun w a n c n' c' => run_neq_slice_nil_any w _ _ a n c n' c' Try.underlying36
  have qI : ∀ (w : World) (a : Option Addr) (n c n' c' : Nat), (binOp .neq 37 (.slice a n c) (.slice none n' c')).run Try.prog w = .ok (.bool (!a.isNone)) w := fun w a n c n' c' => run_neq_slice_nil_any w _ _ a n c n' c' Try.underlying37
  by_cases hb : ys.length ≤ 1048576 ∧ ys.length + vs.length ≤ 1048576
  · have tb : decide (ys.length ≤ 1048576 ∧ ys.length + vs.length ≤ 1048576) = true := decide_eq_true hb
    obtain ⟨hb1, hb2⟩ := hb
    rcases (show 131072 < vs.length ∨ (vs.length ≤ 131072 ∧ 1048576 < ys.length + 8 * vs.length) ∨ (vs.length ≤ 131072 ∧ ys.length + 8 * vs.length ≤ 1048576) by omega) with q | ⟨q, q'⟩ | ⟨q, q'⟩
    · go_enter Try.func5, Try.ntmps5
      go_wp2_with (go_at_call 10; refine (guardS_any _ _ _ _ _ _ hlen hlen' _).mono ?_; rintro e w' ⟨rfl, rfl⟩)
      go_ret
      exact ⟨rfl, Below.refl _ _⟩
    · have qq : decide ((1048576 : Int) < (ys.length : Int) + 8 * (vs.length : Int)) = true := by simp; omega
      go_enter Try.func5, Try.ntmps5
      go_wp2_with (go_at_call 10; refine (guardS_any _ _ _ _ _ _ hlen hlen' _).mono ?_; rintro e w' ⟨rfl, rfl⟩)
      go_ret
      exact ⟨rfl, Below.refl _ _⟩
    · have qq : decide ((1048576 : Int) < (ys.length : Int) + 8 * (vs.length : Int)) = false := by simp; omega
      have HQ := Lib.hid q'
      go_enter Try.func5, Try.ntmps5
      go_wp2_with fail
      refine (guardS_any _ _ _ _ _ _ hlen hlen' _).mono ?_
      rintro e w' ⟨rfl, rfl⟩
      have hy1 : ys.length ≤ 1048576 := by have := HQ.out; omega
      go_upto_if 37 with (fail)
      any_goals (exfalso; omega)
      clear q' tb hb1 hb2 qq
      go_cut [0] (fun v0 wc => ∃ a c, v0 = .slice a ys.length c ∧ Hid (RowInt .u8 wc a ys ∧ Below w.heap.size w wc))
      case first =>
        cases a0 with
        | none =>
          have hz : ys = [] := List.length_eq_zero_iff.1 (HNI.out rfl)
          go_wp2_with fail
          go_meet
          case rel => exact ⟨none, _, by rw [hz]; rfl, Lib.hid ⟨fun h0 => by rw [hz] at h0; exact absurd h0 (Nat.lt_irrefl _), Below.refl _ _⟩⟩
        | some x =>
          have hmk := fun W => run_make_row' (P := Try.prog) 36 5 (.int .u8 0) 1 Try.underlying36 infoU rfl .i64 .i64 ys.length (by omega) (by omega) W
          have hcell : ∀ j, j < ys.length → w.cell? (x.add j) = some (.int .u8 (ys.getD j 0)) := fun j hj => by
            obtain ⟨b, off, h1, h2⟩ := HR.out (by omega)
            injection h1 with h1; subst h1; rw [addr_add]; exact h2 j hj
          have HC := Lib.hid hcell
          clear hcell
          generalize hn : ys.length = n at *
          have HN := Lib.hid hn
          clear hn
          go_wp2_with fail
          go_loopw [6] (fun i wr => ∃ k : Nat, k ≤ n ∧ i = .int .i64 k ∧ wr.rowIs w.heap.size 5 n (fun j => if j < k then .int .u8 (ys.getD j 0) else .int .u8 0) ∧ Below w.heap.size w wr)
            (fun i _ => n - (intOf i).toNat)
          case atStart => exact ⟨0, Nat.zero_le _, rfl, (World.rowIs_made w (.int .u8 0) n 5).congr (fun i _ => by simp), (Below.refl _ _).alloc (Nat.le_refl _) _⟩
          case round =>
            obtain ⟨k, hk, rfl, hrow, hbel⟩ := hrel
            by_cases hlt : k < n
            · have hx : wr.cell? (x.add k) = some (.int .u8 (ys.getD k 0)) := by
                have h1 := HC.out k hlt
                exact (hbel.cell (lt_of_cell h1)).trans h1
              obtain ⟨u, hc⟩ : ∃ u : Int, wr.cell? ⟨w.heap.size, k, none⟩ = some (.int .u8 u) := ⟨0, by have := hrow.cell hlt; simpa using this⟩
              have hf := hrow.frozen k
              have HRw := Lib.hid hrow
              have HBw := Lib.hid hbel
              clear hrow hbel
              go_wp2_with fail
              go_roundw
              case rel => exact ⟨k + 1, by omega, by go_num, (HRw.out.set k _).congr (fun i _ => by split <;> (try split) <;> (try split) <;> first | rfl | (subst_vars; rfl) | omega), HBw.out.setCell (Nat.le_refl _) _⟩
              case measure => first | (simp [intOf]; done) | (simp [intOf]; omega)
            · obtain rfl : k = n := by omega
              have HRw := Lib.hid hrow
              have HBw := Lib.hid hbel
              clear hrow hbel
              go_wp2_with fail
              go_meet
              case rel =>
                have hri := RowInt.of_row (zs := ys) HRw.out (by rw [HN.out]; exact Nat.le_refl _) (fun i hi => if_pos (by rw [HN.out] at hi; exact hi))
                exact ⟨some ⟨w.heap.size, 0, none⟩, k, rfl, Lib.hid ⟨hri, HBw.out⟩⟩
      obtain ⟨ak, ck, rfl, hh⟩ := hcut
      have HK := Lib.hid hh.out.1
      have HBK := Lib.hid hh.out.2
      have HV := Lib.hid (HR'.out.below hh.out.2 (Nat.le_refl _))
      clear hh
      go_upto_if 56 with (fail)
      obtain ⟨wq, rfl⟩ : ∃ x : World, x = wc := ⟨_, rfl⟩
      have hv1 : vs.length ≤ 1048576 := by omega
      go_cut [1] (fun v1 wc => ∃ a c, v1 = .slice a vs.length c ∧ Hid (RowInt .i64 wc a vs ∧ RowInt .u8 wc ak ys ∧ Below w.heap.size w wc))
      case first =>
        cases a1 with
        | none =>
          have hz : vs = [] := List.length_eq_zero_iff.1 (HNI'.out rfl)
          go_wp2_with fail
          go_meet
          case rel => exact ⟨none, _, by rw [hz]; rfl, Lib.hid ⟨fun h0 => by rw [hz] at h0; exact absurd h0 (Nat.lt_irrefl _), HK.out, HBK.out⟩⟩
        | some x =>
          have hmk := fun W => run_make_row' (P := Try.prog) 37 3 (.int .i64 0) 8 Try.underlying37 infoI rfl .i64 .i64 vs.length (by omega) (by omega) W
          have hcell : ∀ j, j < vs.length → wq.cell? (x.add j) = some (.int .i64 (vs.getD j 0)) := fun j hj => by
            obtain ⟨b, off, h1, h2⟩ := HV.out (by omega)
            injection h1 with h1; subst h1; rw [addr_add]; exact h2 j hj
          have HC := Lib.hid hcell
          clear hcell
          generalize hn : vs.length = n at *
          have HN := Lib.hid hn
          clear hn
          go_wp2_with fail
          go_loopw [8] (fun i wr => ∃ k : Nat, k ≤ n ∧ i = .int .i64 k ∧ wr.rowIs wq.heap.size 3 n (fun j => if j < k then .int .i64 (vs.getD j 0) else .int .i64 0) ∧ Below wq.heap.size wq wr)
            (fun i _ => n - (intOf i).toNat)
          case atStart => exact ⟨0, Nat.zero_le _, rfl, (World.rowIs_made wq (.int .i64 0) n 3).congr (fun i _ => by simp), (Below.refl _ _).alloc (Nat.le_refl _) _⟩
          case round =>
            obtain ⟨k, hk, rfl, hrow, hbel⟩ := hrel
            by_cases hlt : k < n
            · have hx : wr.cell? (x.add k) = some (.int .i64 (vs.getD k 0)) := by
                have h1 := HC.out k hlt
                exact (hbel.cell (lt_of_cell h1)).trans h1
              obtain ⟨u, hc⟩ : ∃ u : Int, wr.cell? ⟨wq.heap.size, k, none⟩ = some (.int .i64 u) := ⟨0, by have := hrow.cell hlt; simpa using this⟩
              have hf := hrow.frozen k
              have HRw := Lib.hid hrow
              have HBw := Lib.hid hbel
              clear hrow hbel
              go_wp2_with fail
              go_roundw
              case rel => exact ⟨k + 1, by omega, by go_num, (HRw.out.set k _).congr (fun i _ => by split <;> (try split) <;> (try split) <;> first | rfl | (subst_vars; rfl) | omega), HBw.out.setCell (Nat.le_refl _) _⟩
              case measure => first | (simp [intOf]; done) | (simp [intOf]; omega)
            · obtain rfl : k = n := by omega
              have HRw := Lib.hid hrow
              have HBw := Lib.hid hbel
              clear hrow hbel
              go_wp2_with fail
              go_meet
              case rel =>
                have hri := RowInt.of_row (zs := vs) HRw.out (by rw [HN.out]; exact Nat.le_refl _) (fun i hi => if_pos (by rw [HN.out] at hi; exact hi))
                exact ⟨some ⟨wq.heap.size, 0, none⟩, k, rfl, Lib.hid ⟨hri, HK.out.below HBw.out (Nat.le_refl _), HBK.out.trans (HBw.out.mono HBK.out.size)⟩⟩
      obtain ⟨av, cv, rfl, hh⟩ := hcut
      obtain ⟨wz, rfl⟩ : ∃ x : World, x = wc := ⟨_, rfl⟩
      have HVz := Lib.hid hh.out.1
      have HKz := Lib.hid hh.out.2.1
      have HBz := Lib.hid hh.out.2.2
      clear hh
      have HT0 : Hid (Two wz ((wz.alloc (.cells #[.int .i64 0, .int .i64 0] 24)).alloc (.cells #[.int .i64 0, .int .i64 0, .nilIface] 44)) wz.heap.size wz.heap.size 0 0) := by
        have hsz : (wz.alloc (.cells #[.int .i64 0, .int .i64 0] 24)).heap.size = wz.heap.size + 1 := by simp
        have h2 := blk_new (wz.alloc (.cells #[.int .i64 0, .int .i64 0] 24)) (.cells #[.int .i64 0, .int .i64 0, .nilIface] 44)
        rw [hsz] at h2
        exact Lib.hid ⟨blk_alloc (blk_new _ _) _, h2, ((Below.refl _ _).alloc (Nat.le_refl _) _).alloc (by simp) _⟩
      go_wp2_with fail
      go_loopg [11, 12, 13] ys.length (fun g v11 v12 v13 wr => ∃ (k : Nat) (x y : Int), g = ys.length - k ∧ k ≤ ys.length ∧ v13 = .int .i64 k ∧ v11 = .int .i64 x ∧ v12 = .int .i64 y ∧ Hid (Two wz wr wz.heap.size wz.heap.size x y))
      case atStart => exact ⟨0, 0, 0, rfl, Nat.zero_le _, rfl, rfl, rfl, HT0⟩
      case round =>
        obtain ⟨k, x, y, rfl, hk, rfl, rfl, rfl, HT⟩ := hrel
        have c0 : wr.cell? ⟨wz.heap.size, 0, none⟩ = some (.int .i64 x) := blk_cell HT.out.node 0 _ rfl
        have c1 : wr.cell? ⟨wz.heap.size, 1, none⟩ = some (.int .i64 y) := blk_cell HT.out.node 1 _ rfl
        have d0 : wr.cell? ⟨wz.heap.size + 1, 0, none⟩ = some (.int .i64 x) := blk_cell HT.out.stmt 0 _ rfl
        have d1 : wr.cell? ⟨wz.heap.size + 1, 1, none⟩ = some (.int .i64 y) := blk_cell HT.out.stmt 1 _ rfl
        have e0 : wr.frozen? ⟨wz.heap.size, 0, none⟩ = false := blk_free HT.out.node 0
        have e1 : wr.frozen? ⟨wz.heap.size, 1, none⟩ = false := blk_free HT.out.node 1
        have f0 : wr.frozen? ⟨wz.heap.size + 1, 0, none⟩ = false := blk_free HT.out.stmt 0
        have f1 : wr.frozen? ⟨wz.heap.size + 1, 1, none⟩ = false := blk_free HT.out.stmt 1
        by_cases hlt : k < ys.length
        · obtain ⟨kb, ko, rfl, hkc⟩ := HKz.out (by omega)
          have hkk : wr.cell? ⟨kb, ko + k, none⟩ = some (.int .u8 (ys.getD k 0)) := (HT.out.bel.cell (p := ⟨kb, ko + k, none⟩) (lt_of_cell (hkc k hlt))).trans (hkc k hlt)
          have hki : (k : Int) < (ys.length : Int) := by omega
          have hzb := HW.out (ys.getD k 0) (by rw [List.getD_eq_getElem?_getD, List.getElem?_eq_getElem hlt]; exact List.getElem_mem hlt)
          obtain ⟨z, hz⟩ : ∃ z, ys.getD k 0 = z := ⟨_, rfl⟩
          rw [hz] at hkk hzb
          have hz0 := hzb.1
          have hz1 := hzb.2
          clear hkc hz hzb
          obtain ⟨v, hv⟩ : ∃ v : Int, (k < vs.length → ∃ b off, av = some ⟨b, off, none⟩ ∧ wr.cell? ⟨b, off + k, none⟩ = some (.int .i64 v)) ∧ (vs.length ≤ k → v = 0) := by
            by_cases hkv : k < vs.length
            · obtain ⟨vb, vo, he, hvc⟩ := HVz.out (by omega)
              exact ⟨vs.getD k 0, fun _ => ⟨vb, vo, he, (HT.out.bel.cell (p := ⟨vb, vo + k, none⟩) (lt_of_cell (hvc k hkv))).trans (hvc k hkv)⟩, fun h => by omega⟩
            · exact ⟨0, fun h => by omega, fun _ => rfl⟩
          have HVV := Lib.hid hv
          clear hv
          have hm4 : z % 4 = 0 ∨ z % 4 = 1 ∨ z % 4 = 2 ∨ z % 4 = 3 := by omega
          rcases hm4 with m4 | m4 | m4 | m4
          · by_cases hkv : k < vs.length
            · obtain ⟨vb, vo, rfl, hvc⟩ := HVV.out.1 hkv
              have hkj : (k : Int) < (vs.length : Int) := by omega
              go_wp2_with fail
              refine (setLine_any v c0 e0).mono ?_
              rintro e w' ⟨rfl, rfl⟩
              have hst : (wr.setCell ⟨wz.heap.size, 0, none⟩ (.int .i64 v)).heap[wz.heap.size + 1]? = some (.cells #[.int .i64 x, .int .i64 y, .nilIface] 44 (0, 0)) := (Below.heap_setCell wr ⟨wz.heap.size, 0, none⟩ _ (wz.heap.size + 1) (show wz.heap.size + 1 ≠ wz.heap.size by omega)).trans HT.out.stmt
              have g0 : (wr.setCell ⟨wz.heap.size, 0, none⟩ (.int .i64 v)).cell? ⟨wz.heap.size + 1, 0, none⟩ = some (.int .i64 x) := blk_cell hst 0 _ rfl
              have g1 : (wr.setCell ⟨wz.heap.size, 0, none⟩ (.int .i64 v)).frozen? ⟨wz.heap.size + 1, 0, none⟩ = false := blk_free hst 0
              clear hst
              go_wp2_with fail
              refine (setLine_any v g0 g1).mono ?_
              rintro e w' ⟨rfl, rfl⟩
              clear g0 g1
              go_wp2_with fail
              go_roundg (ys.length - (k + 1))
              case measure => omega
              case rel => exact ⟨k + 1, v, y, by omega, by omega, by go_num, rfl, rfl, Lib.hid (HT.out.line (Nat.le_refl _) v)⟩
            · obtain rfl := HVV.out.2 (by omega)
              go_wp2_with fail
              refine (setLine_any 0 c0 e0).mono ?_
              rintro e w' ⟨rfl, rfl⟩
              have hst : (wr.setCell ⟨wz.heap.size, 0, none⟩ (.int .i64 0)).heap[wz.heap.size + 1]? = some (.cells #[.int .i64 x, .int .i64 y, .nilIface] 44 (0, 0)) := (Below.heap_setCell wr ⟨wz.heap.size, 0, none⟩ _ (wz.heap.size + 1) (show wz.heap.size + 1 ≠ wz.heap.size by omega)).trans HT.out.stmt
              have g0 : (wr.setCell ⟨wz.heap.size, 0, none⟩ (.int .i64 0)).cell? ⟨wz.heap.size + 1, 0, none⟩ = some (.int .i64 x) := blk_cell hst 0 _ rfl
              have g1 : (wr.setCell ⟨wz.heap.size, 0, none⟩ (.int .i64 0)).frozen? ⟨wz.heap.size + 1, 0, none⟩ = false := blk_free hst 0
              clear hst
              go_wp2_with fail
              refine (setLine_any 0 g0 g1).mono ?_
              rintro e w' ⟨rfl, rfl⟩
              clear g0 g1
              go_wp2_with fail
              go_roundg (ys.length - (k + 1))
              case measure => omega
              case rel => exact ⟨k + 1, 0, y, by omega, by omega, by go_num, rfl, rfl, Lib.hid (HT.out.line (Nat.le_refl _) 0)⟩
          · by_cases hkv : k < vs.length
            · obtain ⟨vb, vo, rfl, hvc⟩ := HVV.out.1 hkv
              have hkj : (k : Int) < (vs.length : Int) := by omega
              go_wp2_with fail
              refine (setLast_any v c1 e1).mono ?_
              rintro e w' ⟨rfl, rfl⟩
              have hst : (wr.setCell ⟨wz.heap.size, 1, none⟩ (.int .i64 v)).heap[wz.heap.size + 1]? = some (.cells #[.int .i64 x, .int .i64 y, .nilIface] 44 (0, 0)) := (Below.heap_setCell wr ⟨wz.heap.size, 1, none⟩ _ (wz.heap.size + 1) (show wz.heap.size + 1 ≠ wz.heap.size by omega)).trans HT.out.stmt
              have g0 : (wr.setCell ⟨wz.heap.size, 1, none⟩ (.int .i64 v)).cell? ⟨wz.heap.size + 1, 1, none⟩ = some (.int .i64 y) := blk_cell hst 1 _ rfl
              have g1 : (wr.setCell ⟨wz.heap.size, 1, none⟩ (.int .i64 v)).frozen? ⟨wz.heap.size + 1, 1, none⟩ = false := blk_free hst 1
              clear hst
              go_wp2_with fail
              refine (setLast_any v g0 g1).mono ?_
              rintro e w' ⟨rfl, rfl⟩
              clear g0 g1
              go_wp2_with fail
              go_roundg (ys.length - (k + 1))
              case measure => omega
              case rel => exact ⟨k + 1, x, v, by omega, by omega, by go_num, rfl, rfl, Lib.hid (HT.out.last (Nat.le_refl _) v)⟩
            · obtain rfl := HVV.out.2 (by omega)
              go_wp2_with fail
              refine (setLast_any 0 c1 e1).mono ?_
              rintro e w' ⟨rfl, rfl⟩
              have hst : (wr.setCell ⟨wz.heap.size, 1, none⟩ (.int .i64 0)).heap[wz.heap.size + 1]? = some (.cells #[.int .i64 x, .int .i64 y, .nilIface] 44 (0, 0)) := (Below.heap_setCell wr ⟨wz.heap.size, 1, none⟩ _ (wz.heap.size + 1) (show wz.heap.size + 1 ≠ wz.heap.size by omega)).trans HT.out.stmt
              have g0 : (wr.setCell ⟨wz.heap.size, 1, none⟩ (.int .i64 0)).cell? ⟨wz.heap.size + 1, 1, none⟩ = some (.int .i64 y) := blk_cell hst 1 _ rfl
              have g1 : (wr.setCell ⟨wz.heap.size, 1, none⟩ (.int .i64 0)).frozen? ⟨wz.heap.size + 1, 1, none⟩ = false := blk_free hst 1
              clear hst
              go_wp2_with fail
              refine (setLast_any 0 g0 g1).mono ?_
              rintro e w' ⟨rfl, rfl⟩
              clear g0 g1
              go_wp2_with fail
              go_roundg (ys.length - (k + 1))
              case measure => omega
              case rel => exact ⟨k + 1, x, 0, by omega, by omega, by go_num, rfl, rfl, Lib.hid (HT.out.last (Nat.le_refl _) 0)⟩
          · by_cases hkv : k < vs.length
            · obtain ⟨vb, vo, rfl, hvc⟩ := HVV.out.1 hkv
              have hkj : (k : Int) < (vs.length : Int) := by omega
              go_wp2_with fail
              refine (line_any c0).mono ?_
              rintro e w' ⟨rfl, rfl⟩
              go_wp2_with fail
              refine (line_any d0).mono ?_
              rintro e w' ⟨rfl, rfl⟩
              go_wp2_with fail
              go_roundg (ys.length - (k + 1))
              case measure => omega
              case rel => exact ⟨k + 1, x, y, by omega, by omega, by go_num, rfl, rfl, HT⟩
            · obtain rfl := HVV.out.2 (by omega)
              go_wp2_with fail
              refine (line_any c0).mono ?_
              rintro e w' ⟨rfl, rfl⟩
              go_wp2_with fail
              refine (line_any d0).mono ?_
              rintro e w' ⟨rfl, rfl⟩
              go_wp2_with fail
              go_roundg (ys.length - (k + 1))
              case measure => omega
              case rel => exact ⟨k + 1, x, y, by omega, by omega, by go_num, rfl, rfl, HT⟩
          · by_cases hkv : k < vs.length
            · obtain ⟨vb, vo, rfl, hvc⟩ := HVV.out.1 hkv
              have hkj : (k : Int) < (vs.length : Int) := by omega
              go_wp2_with fail
              refine (last_any c1).mono ?_
              rintro e w' ⟨rfl, rfl⟩
              go_wp2_with fail
              refine (last_any d1).mono ?_
              rintro e w' ⟨rfl, rfl⟩
              go_wp2_with fail
              go_roundg (ys.length - (k + 1))
              case measure => omega
              case rel => exact ⟨k + 1, x, y, by omega, by omega, by go_num, rfl, rfl, HT⟩
            · obtain rfl := HVV.out.2 (by omega)
              go_wp2_with fail
              refine (last_any c1).mono ?_
              rintro e w' ⟨rfl, rfl⟩
              go_wp2_with fail
              refine (last_any d1).mono ?_
              rintro e w' ⟨rfl, rfl⟩
              go_wp2_with fail
              go_roundg (ys.length - (k + 1))
              case measure => omega
              case rel => exact ⟨k + 1, x, y, by omega, by omega, by go_num, rfl, rfl, HT⟩
        · obtain rfl : k = ys.length := by omega
          go_wp2_with fail
          refine (line_any c0).mono ?_
          rintro e w' ⟨rfl, rfl⟩
          go_wp2_with fail
          refine (last_any c1).mono ?_
          rintro e w' ⟨rfl, rfl⟩
          go_wp2_with fail
          refine (line_any d0).mono ?_
          rintro e w' ⟨rfl, rfl⟩
          go_wp2_with fail
          refine (last_any d1).mono ?_
          rintro e w' ⟨rfl, rfl⟩
          go_wp2_with fail
          go_ret
          exact ⟨rfl, HBz.out.trans (HT.out.bel.mono HBz.out.size)⟩
  · have tb : decide (ys.length ≤ 1048576 ∧ ys.length + vs.length ≤ 1048576) = false := decide_eq_false hb
    clear hb
    go_enter Try.func5, Try.ntmps5
    go_wp2_with (go_at_call 10; refine (guardS_any _ _ _ _ _ _ hlen hlen' _).mono ?_; rintro e w' ⟨rfl, rfl⟩)
    go_ret
    exact ⟨rfl, Below.refl _ _⟩

/-! ### THE ROW's STEP: WRITTEN OUT: LEAVE IT -/
set_option maxRecDepth 100000 in
theorem lifted (os : Os) (started : os.Started) (H : Type) (enc : TypeId × Value → H) :
    ReturnsInHanded {} Try.checked os 5 .any (Rows.fnNodeScriptAgreesWithTwoCellModelSpec.pre6 enc Try.prog Try.f5 Rows.fnNodeScriptAgreesWithTwoCellModelRow.domain false) (Rows.fnNodeScriptAgreesWithTwoCellModelSpec.post enc Try.prog Try.f5 false true false false) := by
  refine returnsInHanded_of_change (C := Try.checked) own started (by kernel_rfl) Try.func5
    (ChangeSpec.witness6 (enc := enc) (C := Try.checked) false ⟨#[], #[.slice none 0 0, .slice none 0 0], []⟩ 8 (by kernel_rfl) (by kernel_rfl) (by kernel_rfl) (by kernel_rfl)) ?_
  intro W base args ds gs before hval0 hW hcnd _
  have hval : ∀ (j : Nat) t v, Try.f5.params[j]? = some t → args[j]? = some v → Value.okWide Try.prog W .any base t v := hval0
  have hW' := hW
  obtain ⟨p, q, hA0, hV, rfl, hfz, hnd⟩ := hW
  have hA : DataW.TrodAll enc Try.prog W 0 (fun _ => true) true Try.f5.params.toList args.toList ds p := hA0
  rw [Try.params5] at hA hval
  obtain ⟨v0, vs0, d0, ds0, p0, q0, hargs, rfl, rfl, h0, r0⟩ := trodAll_cons hA
  obtain ⟨v1, vs1, d1, ds1, p1, q1, rfl, rfl, rfl, h1, r1⟩ := trodAll_cons r0
  obtain ⟨rfl, rfl, rfl⟩ := trodAll_nil r1
  obtain rfl : args = #[v0, v1] := by cases args; simp_all
  obtain ⟨rfl, rfl⟩ := trodVars_none hV
  obtain ⟨a0, len0, cap0, rfl⟩ := okWide_slice Try.underlying36 (hval 0 36 v0 rfl rfl)
  have k0 := h0
  have lt0 : ∀ x ∈ p0, x.block < W.heap.size := by obtain ⟨m, hm⟩ := k0; exact DataW.trod_lt m _ _ _ hm
  obtain ⟨z0, w0⟩ : ∃ zs, IsRow .u8 W a0 len0 cap0 zs := by
    obtain ⟨fuel, hf⟩ := h0
    rcases open_ints Try.underlying36 Try.underlying5 (by kernel_rfl) hf with ⟨hcs, _⟩ | ⟨x, l, c, zs, hcs, _, hl, hm, hz, _, hcell, hwz⟩
    · simp [Value.cells] at hcs
      obtain ⟨rfl, rfl, rfl⟩ := hcs
      exact ⟨[], .inl ⟨rfl, rfl, rfl, rfl⟩⟩
    · simp [Value.cells] at hcs
      obtain ⟨rfl, rfl, rfl⟩ := hcs
      exact ⟨zs, .inr ⟨_, rfl, hl, hm, by simpa using hz, hcell, hwz⟩⟩
  obtain ⟨a1, len1, cap1, rfl⟩ := okWide_slice Try.underlying37 (hval 1 37 v1 rfl rfl)
  have k1 := h1
  have lt1 : ∀ x ∈ p1, x.block < W.heap.size := by obtain ⟨m, hm⟩ := k1; exact DataW.trod_lt m _ _ _ hm
  obtain ⟨z1, w1⟩ : ∃ zs, IsRow .i64 W a1 len1 cap1 zs := by
    obtain ⟨fuel, hf⟩ := h1
    rcases open_ints Try.underlying37 Try.underlying3 (by kernel_rfl) hf with ⟨hcs, _⟩ | ⟨x, l, c, zs, hcs, _, hl, hm, hz, _, hcell, hwz⟩
    · simp [Value.cells] at hcs
      obtain ⟨rfl, rfl, rfl⟩ := hcs
      exact ⟨[], .inl ⟨rfl, rfl, rfl, rfl⟩⟩
    · simp [Value.cells] at hcs
      obtain ⟨rfl, rfl, rfl⟩ := hcs
      exact ⟨zs, .inr ⟨_, rfl, hl, hm, by simpa using hz, hcell, hwz⟩⟩
  clear hA0 hval0
  refine (walk a0 len0 cap0 z0 a1 len1 cap1 z1 W w0 w1).mono fun e W' ⟨he, bel⟩ => ?_
  subst he
  exact ⟨_, rfl, _, _, _, [], _, [], hW', trodAll_mk1 (shut_bool Try.underlying4 _), (trodAll_cons_mk (Below.trod laidOut (by kernel_rfl) (of_decide_eq_true (by kernel_rfl)) k0 bel lt0) (trodAll_cons_mk (Below.trod laidOut (by kernel_rfl) (of_decide_eq_true (by kernel_rfl)) k1 bel lt1) trodAll_mk0)), rfl, bel.frame _, fun h => by cases h⟩

theorem over : Rows.fnNodeScriptAgreesWithTwoCellModelRow.holds Try.pinned (OpenSpec.ofChange Rows.fnNodeScriptAgreesWithTwoCellModelSpec) :=
  OpenClaim.holds_of_wide 5 Try.f5 rfl rfl rfl rfl rfl rfl rfl ⟨rfl, rfl, rfl, rfl, rfl⟩ rfl rfl rfl rfl rfl (by kernel_rfl) Try.func5 (by kernel_rfl)
    (of_decide_eq_true (by kernel_rfl)) (by unfold Func.isWrapper; first | (rw [if_pos (by decide +kernel)]; kernel_rfl) | (rw [if_neg (by decide +kernel)]; exact ⟨rfl, rfl⟩))
    (fun os started H enc _ => lifted os started H enc)

/-- ████ THE STATEMENT ████ -/
theorem proved : Rows.FnNodeScriptAgreesWithTwoCellModelSaid := over
#print axioms proved
end Go.Proofs.Ytdfjldbnpmdjcaa.fnNodeScriptAgreesWithTwoCellModel
