/-
  The given statement on FnScannerWalksSourceInOrder: for every input the law returns true and leaves its arguments as they were. No condition beyond the statement's own.
  The frame was written by the kit's proof-skeleton.
-/
import Derived.Test.YtlokpjjjpgjbcaaHelp3s
import Derived.Laws.CopyOwn
import Derived.Deep.CutRange
import Derived.Deep.DeepCutAuto
import Derived.Test.YtlokpjjjpgjbcaaRows
import Derived.WalkKit
import Derived.ProofKit
import Derived.OpenShut
import Derived.ShutString
import Derived.ChangeOld
import Derived.Below
namespace Go.Proofs.Ytlokpjjjpgjbcaa.fnScannerWalksSourceInOrder
open Go.ChangeShapes Go.WideShapes Go.ChangeAt Go.RowKit
open Go.ChangeMaps (open_string shut_string)
set_option linter.unusedVariables false

theorem own : ownKnob Try.prog.godebug = none := by kernel_rfl
theorem laidOut : laidOutB Try.prog = true := by kernel_rfl

/-- WHAT THE WALK IS TOLD OF A SLICE OF INTEGERS THAT CAME IN: it is nil; or it leads to a row of 'cap' cells, the numbers 'zs' (the first 'len' are its elements, the rest its spare room), each fitting its kind. -/
def IsRow (k : IntKind) (w : World) (a : Option Addr) (len cap : Nat) (zs : List Int) : Prop :=
  (a = none ∧ len = 0 ∧ cap = 0 ∧ zs = []) ∨
  ∃ x, a = some x ∧ len ≤ cap ∧ cap ≤ maxLen ∧ zs.length = cap ∧ (∀ i, i < zs.length → w.cell? (x.add i) = some (.int k (zs.getD i 0))) ∧ ∀ n ∈ zs, (Lit.int k n).wf = true

/-- What 'IsRow' says, over the elements alone. -/
theorem isRow_told {k : IntKind} {w : World} {a : Option Addr} {len cap : Nat} {zs : List Int} (h : IsRow k w a len cap zs) :
    ∃ ys : List Int, ys.length = len ∧ RowInt k w a ys ∧ (a = none → ys.length = 0) ∧ len ≤ 9223372036854775807 ∧ (∀ n, n ∈ ys → (Lit.int k n).wf = true) := by
  rcases h with ⟨rfl, rfl, rfl, rfl⟩ | ⟨x, rfl, hl, hm, hz, hcell, hwz⟩
  · exact ⟨[], rfl, fun h0 => absurd h0 (Nat.lt_irrefl _), fun _ => rfl, by omega, fun n hn => by simp at hn⟩
  · refine ⟨zs.take len, by simp; omega, fun h0 => ?_, fun h0 => (by cases h0), by unfold maxLen at hm; omega, fun n hn => hwz n (List.mem_of_mem_take hn)⟩
    have h0' : 0 < len := by simp at h0; omega
    have hsp : x.spot = none := by simpa [Addr.add] using World.cell?_spot (hcell 0 (by omega))
    obtain ⟨b, off, spot⟩ := x
    simp only at hsp
    subst hsp
    refine ⟨b, off, rfl, fun i hi => ?_⟩
    have h1 := hcell i (by simp at hi; omega)
    rw [addr_add] at h1
    rw [h1]
    simp only [List.length_take] at hi
    rw [List.getD_eq_getElem?_getD, List.getD_eq_getElem?_getD, List.getElem?_take_of_lt (by omega)]

set_option maxHeartbeats 4000000
set_option maxRecDepth 100000

/-! ### STEP 1: THE WALK: the Go text returns true, AND WRITES NOTHING THAT WAS THERE: 'Below w.heap.size w w'' (Derived/Below.lean: '.refl', '.alloc', '.drew', '.setCell' at a new block, '.trans'). Open each 'IsRow' by 'rcases' AHEAD of 'go_enter'; part every test ahead of the walk. -/
theorem walk (a0 : Option Addr) (len0 cap0 : Nat) (z0 : List Int) (w : World) (w0 : IsRow .u8 w a0 len0 cap0 z0) :
    Calls Try.prog 5 #[.slice a0 len0 cap0] w fun e w' => e = .returned (.bool true) ∧ Below w.heap.size w w' := by
  obtain ⟨ys, rfl, hrow, hnil, hlen, hwf⟩ := isRow_told w0
  have HW := Lib.hid (fun z hz => bounds_u8 (hwf z hz) : ∀ z, z ∈ ys → 0 ≤ z ∧ z ≤ 255)
  have HR := Lib.hid hrow
  have HNI := Lib.hid hnil
  clear w0 hwf hrow hnil
  have qU : ∀ (w : World) (a : Option Addr) (n c n' c' : Nat), (binOp .neq 33 (.slice a n c) (.slice none n' c')).run Try.prog w = .ok (.bool (!a.isNone)) w := fun w a n c n' c' => run_neq_slice_nil_any w _ _ a n c n' c' Try.underlying33
  by_cases hb : ys.length ≤ 1048576
  · have tb : decide (ys.length ≤ 1048576) = true := decide_eq_true hb
    go_enter Try.func5, Try.ntmps5
    go_wp2_with fail
    refine (guardW_any _ _ _ hlen _).mono ?_
    rintro e w' ⟨rfl, rfl⟩
    go_upto_if 17 with (fail)
    clear tb
    go_cut [0] (fun v0 wc => ∃ a c, v0 = .slice a ys.length c ∧ Hid (RowInt .u8 wc a ys ∧ Below w.heap.size w wc))
    case first =>
      cases a0 with
      | none =>
        have hz : ys = [] := List.length_eq_zero_iff.1 (HNI.out rfl)
        go_wp2_with fail
        go_meet
        case rel => exact ⟨none, _, by rw [hz]; rfl, Lib.hid ⟨fun h0 => by rw [hz] at h0; exact absurd h0 (Nat.lt_irrefl _), Below.refl _ _⟩⟩
      | some x =>
        have hmk := fun W => run_make_row' (P := Try.prog) 33 5 (.int .u8 0) 1 Try.underlying33 infoB rfl .i64 .i64 ys.length (by omega) (by omega) W
        have hcell : ∀ (w1 : World), Below w.heap.size w w1 → 0 < (ys.map (Value.int .u8)).length → (some (⟨w.heap.size, 0, none⟩ : Addr)) = some ⟨w.heap.size, 0, none⟩ ∧ ∃ ad, some x = some ad ∧ ∀ j v, (ys.map (Value.int .u8))[j]? = some v → w1.cell? (ad.add j) = some v := fun w1 hb h0 => by
          refine ⟨rfl, x, rfl, fun j v hj => ?_⟩
          have hj' : j < ys.length := by
            have := (List.getElem?_eq_some_iff.1 hj).1; simpa using this
          obtain ⟨b, off, h1, h2⟩ := HR.out (by omega)
          injection h1 with h1; subst h1
          rw [addr_add]
          have h3 := h2 j hj'
          refine ((hb.cell (p := ⟨b, off + j, none⟩) (lt_of_cell h3)).trans h3).trans ?_
          rw [← hj, List.getElem?_map, List.getElem?_eq_getElem hj', List.getD_eq_getElem?_getD, List.getElem?_eq_getElem hj']; rfl
        have HC := Lib.hid hcell
        have hnew : ((w.alloc (.cells (madeCells #[.int .u8 0] ys.length) 5)).heap[w.heap.size]? = some (.cells ((madeCells #[.int .u8 0] ys.length).toList).toArray 5 (0, 0))) := by rw [Array.toArray_toList]; exact blk_new _ _
        have hbel := (Below.refl w.heap.size w).alloc (Nat.le_refl _) (.cells (madeCells #[Value.int .u8 0] ys.length) 5)
        have hsz := size_madeCells #[Value.int .u8 0] ys.length
        have HN := Lib.hid hnew
        have HB := Lib.hid hbel
        have hl1 : (ys.map (Value.int .u8)).length = Nat.min ys.length ys.length := by rw [List.length_map]; exact (Nat.min_self _).symm
        have hl2 : 0 + (ys.map (Value.int .u8)).length ≤ ((madeCells #[Value.int .u8 0] ys.length).toList).length := by
          have h4 : ((madeCells #[Value.int .u8 0] ys.length).toList).length = ys.length := hsz
          rw [List.length_map, h4]; omega
        have hl3 : ∀ v, v ∈ ys.map (Value.int .u8) → v.oneCell' = true := fun v hv => by simp only [List.mem_map] at hv; obtain ⟨q, _, rfl⟩ := hv; rfl
        have H1 := Lib.hid hl1
        have H2 := Lib.hid hl2
        have H3 := Lib.hid hl3
        clear hcell hnew hbel hsz hl1 hl2 hl3
        go_wp2_with (refine wpList_copy_splice (o := ⟨some 23, _, _, _, _, _⟩) rfl (.tmp 21) (.tmp 22) 33 33 rfl 5 Try.underlying33 sizeB (some ⟨w.heap.size, 0, none⟩) (some x) ys.length ys.length ys.length cap0 rfl rfl w.heap.size 0 _ 5 HN.out (ys.map (Value.int .u8)) H1.out (HC.out _ HB.out) H2.out H3.out w.heap.size w HB.out (Nat.le_refl _) ?_; intro w' hh hb')
        have HH := Lib.hid hh.out
        have HBB := Lib.hid hb'
        clear hh hb'
        go_wp2_with fail
        go_meet
        case rel =>
          refine ⟨some ⟨w.heap.size, 0, none⟩, ys.length, rfl, Lib.hid ⟨fun h0 => ⟨w.heap.size, 0, rfl, fun i hi => ?_⟩, HBB.out⟩⟩
          refine blk_cell HH.out _ _ ?_
          simp only [splice, List.take_zero, List.nil_append, Nat.zero_add, List.getElem?_toArray]
          rw [List.getElem?_append_left (by simpa using hi), List.getElem?_map, List.getElem?_eq_getElem hi, List.getD_eq_getElem?_getD, List.getElem?_eq_getElem hi]; rfl
    obtain ⟨ak, ck, rfl, hh⟩ := hcut
    have HS0 : Hid (Scan (wc.alloc (.cells #[.slice ak ys.length ck, .int .i64 0, .bool false, .int .i64 0, .bool false] 45)) wc.heap.size ak ck ys 0 0) := Lib.hid (Scan.new hh.out.1 (by omega) HW.out)
    have HB0 := Lib.hid (hh.out.2.alloc hh.out.2.size (.cells #[.slice ak ys.length ck, .int .i64 0, .bool false, .int .i64 0, .bool false] 45))
    have HSZ := Lib.hid hh.out.2.size
    clear hh
    go_wp2_with fail
    refine (zzNewS_any _ _ _ _).mono ?_
    rintro e w2 ⟨rfl, rfl⟩
    generalize wc.alloc (.cells #[.slice ak ys.length ck, .int .i64 0, .bool false, .int .i64 0, .bool false] 45) = w2 at *
    generalize wc.heap.size = sb at *
    go_wp2_with fail
    go_loopg [5] ys.length (fun g v wr => ∃ k : Nat, g = ys.length - k ∧ k ≤ ys.length ∧ v = .int .i64 k ∧ Hid (Scan wr sb ak ck ys k 0 ∧ w2.grownBy wr (some sb)))
    case atStart => exact ⟨0, rfl, Nat.zero_le _, rfl, Lib.hid ⟨HS0.out, one_refl _ _⟩⟩
    case round =>
      obtain ⟨k, rfl, hk, rfl, HI⟩ := hrel
      by_cases hlt : k < ys.length
      · obtain ⟨z, hz⟩ : ∃ z, chr ys k = z := ⟨_, rfl⟩
        have HZ := Lib.hid hz
        obtain ⟨xb, xo, rfl, hxne, hxc⟩ := HI.out.1.src (by omega)
        have hcz : ys.getD k 0 = z := by rw [← hz]; unfold chr; rw [if_pos hlt]
        have HX := Lib.hid hxc
        have hxb : xb ≠ sb := hxne
        have HXB := Lib.hid hxb
        have hzr := getD_byte HW.out k
        rw [hcz] at hzr
        have hz0 := hzr.1
        have hz1 := hzr.2
        have HCZ := Lib.hid hcz
        obtain ⟨P, hP⟩ : ∃ P, posOf ys.length k = P := ⟨_, rfl⟩
        have HP := Lib.hid hP
        have ki : (k : Int) < (ys.length : Int) := by omega
        have HSR := Lib.hid HI.out.1
        have HGR := Lib.hid HI.out.2
        clear hz hxc hxne hxb hzr hcz hP HI
        have key : ∀ wk : World, Scan wk sb (some ⟨xb, xo, none⟩) ck ys k 0 → w2.grownBy wk (some sb) → True := fun _ _ _ => trivial
        clear key
        by_cases hk0 : 0 < k
        · go_wp2_with fail
          refine (npos_is HSR.out (P := (k : Int)) (by unfold nposOf; rw [if_pos (by omega)])).mono ?_
          rintro e w3 ⟨rfl, hs3, hg3⟩
          have HS3 := Lib.hid hs3
          have HG3 := Lib.hid (one_trans HGR.out hg3)
          clear hs3 hg3
          go_wp2_with fail
          refine (pos_is HS3.out HP.out).mono ?_
          rintro e w' ⟨rfl, rfl⟩
          go_wp2_with fail
          refine (peek_is HS3.out HZ.out (d := k) (by unfold peekC; rw [if_neg (by omega)])).mono ?_
          rintro e w4 ⟨rfl, hs4, hg4⟩
          have HS4 := Lib.hid hs4
          have HG4 := Lib.hid (one_trans HG3.out hg4)
          have hx4 : w4.cell? ⟨xb, xo + k, none⟩ = some (.int .u8 z) := by
            obtain ⟨x', y', he, _, hc⟩ := hs4.src (by omega)
            simp only [Option.some.injEq, Addr.mk.injEq, and_true] at he
            obtain ⟨rfl, rfl⟩ := he
            rw [← HCZ.out]; exact hc k hlt
          clear hs4 hg4
          go_wp2_with fail
          refine (pos_is HS4.out HP.out).mono ?_
          rintro e w' ⟨rfl, rfl⟩
          go_wp2_with fail
          refine (next_is HS4.out HZ.out (d := k + 1) (by omega)).mono ?_
          rintro e w5 ⟨rfl, hs5, hg5⟩
          have HS5 := Lib.hid hs5
          have HG5 := Lib.hid (one_trans HG4.out hg5)
          have hx5 : w5.cell? ⟨xb, xo + k, none⟩ = some (.int .u8 z) := by
            obtain ⟨x', y', he, _, hc⟩ := hs5.src (by omega)
            simp only [Option.some.injEq, Addr.mk.injEq, and_true] at he
            obtain ⟨rfl, rfl⟩ := he
            rw [← HCZ.out]; exact hc k hlt
          clear hs5 hg5
          go_wp2_with fail
          refine (pos_is HS5.out (P := (k : Int)) (by unfold posOf; rw [if_neg (by omega), if_pos (by omega)]; omega)).mono ?_
          rintro e w' ⟨rfl, rfl⟩
          go_wp2_with fail
          go_roundg (ys.length - (k + 1))
          case measure => omega
          case rel => exact ⟨k + 1, by omega, by omega, by go_num, Lib.hid ⟨HS5.out, HG5.out⟩⟩
        · obtain rfl : k = 0 := by omega
          go_wp2_with fail
          refine (pos_is HSR.out HP.out).mono ?_
          rintro e w' ⟨rfl, rfl⟩
          go_wp2_with fail
          refine (peek_is HSR.out HZ.out (d := 0) (by unfold peekC; rw [if_neg (by omega)])).mono ?_
          rintro e w4 ⟨rfl, hs4, hg4⟩
          have HS4 := Lib.hid hs4
          have HG4 := Lib.hid (one_trans HGR.out hg4)
          have hx4 : w4.cell? ⟨xb, xo, none⟩ = some (.int .u8 z) := by
            obtain ⟨x', y', he, _, hc⟩ := hs4.src (by omega)
            simp only [Option.some.injEq, Addr.mk.injEq, and_true] at he
            obtain ⟨rfl, rfl⟩ := he
            rw [← HCZ.out]; exact hc 0 hlt
          clear hs4 hg4
          go_wp2_with fail
          refine (pos_is HS4.out HP.out).mono ?_
          rintro e w' ⟨rfl, rfl⟩
          go_wp2_with fail
          refine (next_is HS4.out HZ.out (d := 0 + 1) (by omega)).mono ?_
          rintro e w5 ⟨rfl, hs5, hg5⟩
          have HS5 := Lib.hid hs5
          have HG5 := Lib.hid (one_trans HG4.out hg5)
          have hx5 : w5.cell? ⟨xb, xo, none⟩ = some (.int .u8 z) := by
            obtain ⟨x', y', he, _, hc⟩ := hs5.src (by omega)
            simp only [Option.some.injEq, Addr.mk.injEq, and_true] at he
            obtain ⟨rfl, rfl⟩ := he
            rw [← HCZ.out]; exact hc 0 hlt
          clear hs5 hg5
          go_wp2_with fail
          refine (pos_is HS5.out (P := 0) (by unfold posOf; rw [if_neg (by omega), if_pos (by omega)]; omega)).mono ?_
          rintro e w' ⟨rfl, rfl⟩
          go_wp2_with fail
          go_roundg (ys.length - (0 + 1))
          case measure => omega
          case rel => exact ⟨1, by omega, by omega, by go_num, Lib.hid ⟨HS5.out, HG5.out⟩⟩
      · obtain rfl : k = ys.length := by omega
        have HSR := Lib.hid HI.out.1
        have HGR := Lib.hid HI.out.2
        clear HI
        have hch : chr ys ys.length = -1 := by unfold chr; rw [if_neg (by omega)]
        have HCH := Lib.hid hch
        have HP1 : Hid (posOf ys.length (peekC ys.length ys.length) = (ys.length : Int) - 1) := Lib.hid (posOf_peek (Nat.le_refl _) (Nat.le_refl _))
        have hch1 : ∀ c, ys.length ≤ c → chr ys c = -1 := fun c hc => by unfold chr; rw [if_neg (by omega)]
        have HC1 := Lib.hid hch1
        have hpk : ys.length ≤ peekC ys.length ys.length := by unfold peekC; split <;> omega
        have HPK := Lib.hid hpk
        clear hch hch1 hpk
        by_cases hn0 : 0 < ys.length
        · have hne0 : ((ys.length : Int) == 0) = false := beq_eq_false_iff_ne.2 (by omega)
          go_wp2_with fail
          refine (npos_is HSR.out (P := -1) (by unfold nposOf; rw [if_neg (by omega)])).mono ?_
          rintro e w3 ⟨rfl, hs3, hg3⟩
          have HS3 := Lib.hid hs3
          have HG3 := Lib.hid (one_trans HGR.out hg3)
          clear hs3 hg3
          go_wp2_with fail
          refine (peek_is HS3.out HCH.out rfl).mono ?_
          rintro e w4 ⟨rfl, hs4, hg4⟩
          have HS4 := Lib.hid hs4
          have HG4 := Lib.hid (one_trans HG3.out hg4)
          clear hs4 hg4
          go_wp2_with fail
          refine (pos_is HS4.out HP1.out).mono ?_
          rintro e w' ⟨rfl, rfl⟩
          go_wp2_with fail
          refine (next_is HS4.out (HC1.out _ HPK.out) (d := ys.length + 1) (by have := HPK.out; omega)).mono ?_
          rintro e w5 ⟨rfl, hs5, hg5⟩
          have HS5 := Lib.hid hs5
          have HG5 := Lib.hid (one_trans HG4.out hg5)
          clear hs5 hg5
          go_wp2_with fail
          refine (next_is HS5.out (HC1.out _ (by omega)) (d := ys.length + 1) (by omega)).mono ?_
          rintro e w6 ⟨rfl, hs6, hg6⟩
          have HS6 := Lib.hid hs6
          have HG6 := Lib.hid (one_trans HG5.out hg6)
          clear hs6 hg6
          go_wp2_with fail
          refine (pos_is HS6.out (P := -1) (by unfold posOf; rw [if_neg (by omega), if_neg (by omega)])).mono ?_
          rintro e w' ⟨rfl, rfl⟩
          go_wp2_with fail
          go_ret
          exact ⟨rfl, HB0.out.trans (one_below HG6.out HSZ.out HB0.out.size)⟩
        · have hy0 : ys = [] := List.length_eq_zero_iff.1 (by omega)
          subst hy0
          go_wp2_with fail
          refine (peek_is HSR.out HCH.out (d := 1) rfl).mono ?_
          rintro e w4 ⟨rfl, hs4, hg4⟩
          have HS4 := Lib.hid hs4
          have HG4 := Lib.hid (one_trans HGR.out hg4)
          clear hs4 hg4
          go_wp2_with fail
          refine (pos_is HS4.out (P := -1) rfl).mono ?_
          rintro e w' ⟨rfl, rfl⟩
          go_wp2_with fail
          refine (next_is HS4.out (HC1.out _ (by simp)) (d := 1) rfl).mono ?_
          rintro e w5 ⟨rfl, hs5, hg5⟩
          have HS5 := Lib.hid hs5
          have HG5 := Lib.hid (one_trans HG4.out hg5)
          clear hs5 hg5
          go_wp2_with fail
          refine (next_is HS5.out (HC1.out _ (by simp)) (d := 1) rfl).mono ?_
          rintro e w6 ⟨rfl, hs6, hg6⟩
          have HS6 := Lib.hid hs6
          have HG6 := Lib.hid (one_trans HG5.out hg6)
          clear hs6 hg6
          go_wp2_with fail
          refine (pos_is HS6.out (P := -1) rfl).mono ?_
          rintro e w' ⟨rfl, rfl⟩
          go_wp2_with fail
          go_ret
          exact ⟨rfl, HB0.out.trans (one_below HG6.out HSZ.out HB0.out.size)⟩
  · have tb : decide (ys.length ≤ 1048576) = false := decide_eq_false hb
    go_enter Try.func5, Try.ntmps5
    go_wp2_with (go_at_call 12; refine (guardW_any _ _ _ hlen _).mono ?_; rintro e w' ⟨rfl, rfl⟩)
    go_ret
    exact ⟨rfl, Below.refl _ _⟩

/-! ### THE ROW's STEP: WRITTEN OUT: LEAVE IT -/
set_option maxRecDepth 100000 in
theorem lifted (os : Os) (started : os.Started) (H : Type) (enc : TypeId × Value → H) :
    ReturnsInHanded {} Try.checked os 5 .any (Rows.fnScannerWalksSourceInOrderSpec.pre6 enc Try.prog Try.f5 Rows.fnScannerWalksSourceInOrderRow.domain false) (Rows.fnScannerWalksSourceInOrderSpec.post enc Try.prog Try.f5 false true false false) := by
  refine returnsInHanded_of_change (C := Try.checked) own started (by kernel_rfl) Try.func5
    (ChangeSpec.witness6 (enc := enc) (C := Try.checked) false ⟨#[], #[.slice none 0 0], []⟩ 8 (by kernel_rfl) (by kernel_rfl) (by kernel_rfl) (by kernel_rfl)) ?_
  intro W base args ds gs before hval0 hW hcnd _
  have hval : ∀ (j : Nat) t v, Try.f5.params[j]? = some t → args[j]? = some v → Value.okWide Try.prog W .any base t v := hval0
  have hW' := hW
  obtain ⟨p, q, hA0, hV, rfl, hfz, hnd⟩ := hW
  have hA : DataW.TrodAll enc Try.prog W 0 (fun _ => true) true Try.f5.params.toList args.toList ds p := hA0
  rw [Try.params5] at hA hval
  obtain ⟨v0, vs0, d0, ds0, p0, q0, hargs, rfl, rfl, h0, r0⟩ := trodAll_cons hA
  obtain ⟨rfl, rfl, rfl⟩ := trodAll_nil r0
  obtain rfl : args = #[v0] := by cases args; simp_all
  obtain ⟨rfl, rfl⟩ := trodVars_none hV
  obtain ⟨a0, len0, cap0, rfl⟩ := okWide_slice Try.underlying33 (hval 0 33 v0 rfl rfl)
  have k0 := h0
  have lt0 : ∀ x ∈ p0, x.block < W.heap.size := by obtain ⟨m, hm⟩ := k0; exact DataW.trod_lt m _ _ _ hm
  obtain ⟨z0, w0⟩ : ∃ zs, IsRow .u8 W a0 len0 cap0 zs := by
    obtain ⟨fuel, hf⟩ := h0
    rcases open_ints Try.underlying33 Try.underlying5 (by kernel_rfl) hf with ⟨hcs, _⟩ | ⟨x, l, c, zs, hcs, _, hl, hm, hz, _, hcell, hwz⟩
    · simp [Value.cells] at hcs
      obtain ⟨rfl, rfl, rfl⟩ := hcs
      exact ⟨[], .inl ⟨rfl, rfl, rfl, rfl⟩⟩
    · simp [Value.cells] at hcs
      obtain ⟨rfl, rfl, rfl⟩ := hcs
      exact ⟨zs, .inr ⟨_, rfl, hl, hm, by simpa using hz, hcell, hwz⟩⟩
  clear hA0 hval0
  refine (walk a0 len0 cap0 z0 W w0).mono fun e W' ⟨he, bel⟩ => ?_
  subst he
  exact ⟨_, rfl, _, _, _, [], _, [], hW', trodAll_mk1 (shut_bool Try.underlying4 _), (trodAll_cons_mk (Below.trod laidOut (by kernel_rfl) (of_decide_eq_true (by kernel_rfl)) k0 bel lt0) trodAll_mk0), rfl, bel.frame _, fun h => by cases h⟩

theorem over : Rows.fnScannerWalksSourceInOrderRow.holds Try.pinned (OpenSpec.ofChange Rows.fnScannerWalksSourceInOrderSpec) :=
  OpenClaim.holds_of_wide 5 Try.f5 rfl rfl rfl rfl rfl rfl rfl ⟨rfl, rfl, rfl, rfl, rfl⟩ rfl rfl rfl rfl rfl (by kernel_rfl) Try.func5 (by kernel_rfl)
    (of_decide_eq_true (by kernel_rfl)) (by unfold Func.isWrapper; first | (rw [if_pos (by decide +kernel)]; kernel_rfl) | (rw [if_neg (by decide +kernel)]; exact ⟨rfl, rfl⟩))
    (fun os started H enc _ => lifted os started H enc)

/-- ████ THE STATEMENT ████ -/
theorem proved : Rows.FnScannerWalksSourceInOrderSaid := over
#print axioms proved
end Go.Proofs.Ytlokpjjjpgjbcaa.fnScannerWalksSourceInOrder
