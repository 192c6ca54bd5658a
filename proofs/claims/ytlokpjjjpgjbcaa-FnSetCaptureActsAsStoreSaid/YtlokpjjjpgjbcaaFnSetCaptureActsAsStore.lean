/-
  The given statement on FnSetCaptureActsAsStore: for every input the law returns true and leaves its arguments as they were. No condition beyond the statement's own.
  The frame was written by the kit's proof-skeleton.
-/
import Derived.Test.YtlokpjjjpgjbcaaHelp3d
import Derived.Deep.CutRange
import Derived.Deep.DeepCutAuto
import Derived.Deep.LoopGhost
import Derived.Test.YtlokpjjjpgjbcaaRows
import Derived.WalkKit
import Derived.ProofKit
import Derived.OpenShut
import Derived.ShutString
import Derived.ChangeOld
import Derived.Below
namespace Go.Proofs.Ytlokpjjjpgjbcaa.fnSetCaptureActsAsStore
open Go.ChangeShapes Go.WideShapes Go.ChangeAt Go.RowKit
open Go.ChangeMaps (open_string shut_string)
set_option linter.unusedVariables false

theorem own : ownKnob Try.prog.godebug = none := by kernel_rfl
theorem laidOut : laidOutB Try.prog = true := by kernel_rfl

/-- WHAT THE WALK IS TOLD OF A SLICE OF INTEGERS THAT CAME IN: it is nil; or it leads to a row of 'cap' cells, the numbers 'zs' (the first 'len' are its elements, the rest its spare room), each fitting its kind. -/
def IsRow (k : IntKind) (w : World) (a : Option Addr) (len cap : Nat) (zs : List Int) : Prop :=
  (a = none ∧ len = 0 ∧ cap = 0 ∧ zs = []) ∨
  ∃ x, a = some x ∧ len ≤ cap ∧ cap ≤ maxLen ∧ zs.length = cap ∧ (∀ i, i < zs.length → w.cell? (x.add i) = some (.int k (zs.getD i 0))) ∧ ∀ n ∈ zs, (Lit.int k n).wf = true

/-- What 'IsRow' says, over the elements alone. -/
theorem isRow_told {k : IntKind} {w : World} {a : Option Addr} {len cap : Nat} {zs : List Int} (h : IsRow k w a len cap zs) :
    ∃ ys : List Int, ys.length = len ∧ RowInt k w a ys ∧ (a = none → ys.length = 0) ∧ len ≤ 9223372036854775807 ∧ (∀ n, n ∈ ys → (Lit.int k n).wf = true) := by
  rcases h with ⟨rfl, rfl, rfl, rfl⟩ | ⟨x, rfl, hl, hm, hz, hcell, hwz⟩
  · exact ⟨[], rfl, fun h0 => absurd h0 (Nat.lt_irrefl _), fun _ => rfl, by omega, fun n hn => by simp at hn⟩
  · refine ⟨zs.take len, by simp; omega, fun h0 => ?_, fun h0 => (by cases h0), by unfold maxLen at hm; omega, fun n hn => hwz n (List.mem_of_mem_take hn)⟩
    have h0' : 0 < len := by simp at h0; omega
    have hsp : x.spot = none := by simpa [Addr.add] using World.cell?_spot (hcell 0 (by omega))
    obtain ⟨b, off, spot⟩ := x
    simp only at hsp
    subst hsp
    refine ⟨b, off, rfl, fun i hi => ?_⟩
    have h1 := hcell i (by simp at hi; omega)
    rw [addr_add] at h1
    rw [h1]
    simp only [List.length_take] at hi
    rw [List.getD_eq_getElem?_getD, List.getD_eq_getElem?_getD, List.getElem?_take_of_lt (by omega)]


/-! ### STEP 1: THE WALK: the Go text returns true, AND WRITES NOTHING THAT WAS THERE: 'Below w.heap.size w w'' (Derived/Below.lean: '.refl', '.alloc', '.drew', '.setCell' at a new block, '.trans'). Open each 'IsRow' by 'rcases' AHEAD of 'go_enter'; part every test ahead of the walk. -/
set_option maxHeartbeats 2000000
set_option maxRecDepth 100000
theorem walk (a0 : Option Addr) (len0 cap0 : Nat) (z0 : List Int) (a1 : Option Addr) (len1 cap1 : Nat) (z1 : List Int) (a2 : Option Addr) (len2 cap2 : Nat) (z2 : List Int) (w : World) (w0 : IsRow .u32 w a0 len0 cap0 z0) (w1 : IsRow .i64 w a1 len1 cap1 z1) (w2 : IsRow .i64 w a2 len2 cap2 z2) :
    Calls Try.prog 3 #[.slice a0 len0 cap0, .slice a1 len1 cap1, .slice a2 len2 cap2] w fun e w' => e = .returned (.bool true) ∧ Below w.heap.size w w' := by
  obtain ⟨ys, rfl, hrow, hnil, hlen, hwf⟩ := isRow_told w0
  obtain ⟨sl, rfl, hrow1, hnil1, hlen1, hwf1⟩ := isRow_told w1
  obtain ⟨pl, rfl, hrow2, hnil2, hlen2, hwf2⟩ := isRow_told w2
  have HW := Lib.hid (fun z hz => u32_bd (hwf z hz) : ∀ z, z ∈ ys → 0 ≤ z ∧ z < 4294967296)
  have HR := Lib.hid hrow
  have HNI := Lib.hid hnil
  have HR1 := Lib.hid hrow1
  have HR2 := Lib.hid hrow2
  clear w0 w1 w2 hwf hrow hnil hwf1 hrow1 hnil1 hwf2 hrow2 hnil2
  rcases (show 1048576 < ys.length + sl.length + pl.length ∨ (ys.length + sl.length + pl.length ≤ 1048576 ∧ 131072 < ys.length) ∨ (ys.length + sl.length + pl.length ≤ 1048576 ∧ ys.length ≤ 131072 ∧ 32768 < sl.length) ∨ (ys.length + sl.length + pl.length ≤ 1048576 ∧ ys.length ≤ 131072 ∧ sl.length ≤ 32768 ∧ 32768 < pl.length) ∨ (ys.length + sl.length + pl.length ≤ 1048576 ∧ ys.length ≤ 131072 ∧ sl.length ≤ 32768 ∧ pl.length ≤ 32768) by omega) with q | ⟨q, q'⟩ | ⟨q, q', q''⟩ | ⟨q, q', q'', q3⟩ | ⟨q, q', q'', q3⟩
  · have tb : decide (ys.length + sl.length + pl.length ≤ 1048576) = false := decide_eq_false (by omega)
    go_enter Try.func3, Try.ntmps3
    go_wp2_with (go_at_call 6; refine (gS_any _ _ _ _ _ _ _ _ _ hlen hlen1 hlen2 _).mono ?_; rintro e w' ⟨rfl, rfl⟩)
    go_ret
    exact ⟨rfl, Below.refl _ _⟩
  · have tb : decide (ys.length + sl.length + pl.length ≤ 1048576) = true := decide_eq_true q
    go_enter Try.func3, Try.ntmps3
    go_wp2_with (go_at_call 6; refine (gS_any _ _ _ _ _ _ _ _ _ hlen hlen1 hlen2 _).mono ?_; rintro e w' ⟨rfl, rfl⟩)
    go_ret
    exact ⟨rfl, Below.refl _ _⟩
  · have tb : decide (ys.length + sl.length + pl.length ≤ 1048576) = true := decide_eq_true q
    go_enter Try.func3, Try.ntmps3
    go_wp2_with (go_at_call 6; refine (gS_any _ _ _ _ _ _ _ _ _ hlen hlen1 hlen2 _).mono ?_; rintro e w' ⟨rfl, rfl⟩)
    go_ret
    exact ⟨rfl, Below.refl _ _⟩
  · have tb : decide (ys.length + sl.length + pl.length ≤ 1048576) = true := decide_eq_true q
    go_enter Try.func3, Try.ntmps3
    go_wp2_with (go_at_call 6; refine (gS_any _ _ _ _ _ _ _ _ _ hlen hlen1 hlen2 _).mono ?_; rintro e w' ⟨rfl, rfl⟩)
    go_ret
    exact ⟨rfl, Below.refl _ _⟩
  · have tb : decide (ys.length + sl.length + pl.length ≤ 1048576) = true := decide_eq_true q
    obtain ⟨N, hN⟩ : ∃ N, N = min sl.length pl.length := ⟨_, rfl⟩
    have hN1 : N ≤ sl.length := by omega
    have hN2 : N ≤ pl.length := by omega
    have HN := Lib.hid hN
    obtain ⟨tk, htk⟩ : ∃ tk, tk = sl.take N := ⟨_, rfl⟩
    have htl : tk.length = N := by rw [htk, List.length_take]; omega
    have htg : ∀ k, k < N → tk.getD k 0 = sl.getD k 0 := fun k hk => by rw [htk, List.getD_eq_getElem?_getD, List.getElem?_take_of_lt hk, ← List.getD_eq_getElem?_getD]
    have HTL := Lib.hid htl
    have HTG := Lib.hid htg
    obtain ⟨L, hL⟩ : ∃ L, reach ys.length tk = L := ⟨_, rfl⟩
    have HL := Lib.hid hL
    clear hN htk htl htg hL
    go_enter Try.func3, Try.ntmps3
    go_wp2_with fail
    refine (gS_any _ _ _ _ _ _ _ _ _ hlen hlen1 hlen2 _).mono ?_
    rintro e w' ⟨rfl, rfl⟩
    go_upto_if 38 with (fail)
    go_cut [7] (fun v wc => v = .int .i64 (N : Int) ∧ w = wc)
    case first =>
      by_cases hc : pl.length < sl.length
      · have tc : decide ((pl.length : Int) < (sl.length : Int)) = true := decide_eq_true (by omega)
        go_wp2_with fail
        go_meet
        case rel => (have hq : (N : Int) = (pl.length : Int) := by have := HN.out; omega); exact ⟨by rw [hq], rfl⟩
      · have tc : decide ((pl.length : Int) < (sl.length : Int)) = false := decide_eq_false (by omega)
        go_wp2_with fail
        go_meet
        case rel => (have hq : (N : Int) = (sl.length : Int) := by have := HN.out; omega); exact ⟨by rw [hq], rfl⟩
    obtain ⟨rfl, rfl⟩ := hcut
    go_wp2_with fail
    go_loop [9, 8] (fun i c => ∃ k m : Nat, k ≤ N ∧ i = .int .i64 k ∧ c = .int .i64 m ∧ m ≤ 131072 ∧ ys.length ≤ m ∧ Hid (reach m (tk.drop k) = L ∧ ∀ j, j < k → 0 ≤ sl.getD j 0 ∧ sl.getD j 0 < 65536)) (fun i c => N - (intOf i).toNat)
    case atStart => exact ⟨0, ys.length, Nat.zero_le _, rfl, rfl, by omega, Nat.le_refl _, Lib.hid ⟨HL.out, fun j hj => absurd hj (Nat.not_lt_zero _)⟩⟩
    case round =>
      obtain ⟨k, m, hk, rfl, rfl, hm1, hm2, HI⟩ := hrel
      by_cases hlt : k < N
      · have tl : decide ((k : Int) < (N : Int)) = true := decide_eq_true (by omega)
        have hki : (k : Int) < (sl.length : Int) := by omega
        obtain ⟨b1, o1, rfl, hc1⟩ := row_cell HR1.out (by omega)
        have hcell := hc1 k (by omega)
        clear hc1
        obtain ⟨z, hz⟩ : ∃ z, sl.getD k 0 = z := ⟨_, rfl⟩
        rw [hz] at hcell
        have HZ := Lib.hid hz
        clear hz
        rcases (show z < 0 ∨ (0 ≤ z ∧ 65536 ≤ z) ∨ (0 ≤ z ∧ z < 65536) by omega) with r | ⟨r, r'⟩ | ⟨r, r'⟩
        · have tz : decide (z < 0) = true := decide_eq_true r
          go_wp2_with fail
          go_ret
          exact ⟨rfl, Below.refl _ _⟩
        · have tz : decide (z < 0) = false := decide_eq_false (by omega)
          have tz2 : decide (65536 ≤ z) = true := decide_eq_true r'
          go_wp2_with fail
          go_ret
          exact ⟨rfl, Below.refl _ _⟩
        · obtain ⟨s, rfl⟩ : ∃ k : Nat, z = (k : Int) := ⟨z.toNat, by omega⟩
          have tz : decide ((s : Int) < 0) = false := decide_eq_false (by omega)
          have tz2 : decide (65536 ≤ (s : Int)) = false := decide_eq_false (by omega)
          have hs : s < 65536 := by omega
          clear r r'
          have hst : reach (max m (s + 1)) (tk.drop (k + 1)) = L := by rw [← HI.out.1]; exact (reach_step (by rw [HTL.out]; exact hlt) (by rw [HTG.out k hlt, HZ.out])).symm
          have hrg : ∀ j, j < k + 1 → 0 ≤ sl.getD j 0 ∧ sl.getD j 0 < 65536 := fun j hj => by
            rcases Nat.lt_or_ge j k with h | h
            · exact HI.out.2 j h
            · obtain rfl : j = k := by omega
              rw [HZ.out]; omega
          have HST := Lib.hid hst
          have HRG := Lib.hid hrg
          clear hst hrg
          by_cases hms : m < s + 1
          · have tm : decide ((m : Int) < (s : Int) + 1) = true := decide_eq_true (by omega)
            go_wp2_with fail
            go_round
            case rel => exact ⟨k + 1, s + 1, by omega, by go_num, by go_num, by omega, by omega, Lib.hid ⟨by have := HST.out; rwa [Nat.max_eq_right (by omega)] at this, HRG.out⟩⟩
            case measure => first | (simp [intOf]; done) | (simp [intOf]; omega)
          · have tm : decide ((m : Int) < (s : Int) + 1) = false := decide_eq_false (by omega)
            go_wp2_with fail
            go_round
            case rel => exact ⟨k + 1, m, by omega, by go_num, rfl, by omega, by omega, Lib.hid ⟨by have := HST.out; rwa [Nat.max_eq_left (by omega)] at this, HRG.out⟩⟩
            case measure => first | (simp [intOf]; done) | (simp [intOf]; omega)
      · obtain rfl : k = N := by omega
        have hmL : m = L := by have := HI.out.1; rwa [reach_end (by rw [HTL.out]; exact Nat.le_refl _)] at this
        have HRG := Lib.hid HI.out.2
        clear HI
        subst hmL
        go_wp2_with fail
        refine (copyU_any a0 cap0 ys _ HR.out HNI.out (by omega)).mono ?_
        rintro e w2 ⟨b2, c2, rfl, hf2, ho2, hr2, hb2⟩
        have HO2 := Lib.hid ho2
        have HB2 := Lib.hid hb2
        have HRB := Lib.hid hr2
        clear hf2 ho2 hr2 hb2
        have hmk := fun W => run_make_row' (P := Try.prog) 22 26 (.int .u32 0) 4 Try.underlying22 copyU_info rfl .i64 .i64 m (by omega) (by omega) W
        go_wp2_with fail
        clear hmk
        go_loopw [11] (fun i wr => ∃ k : Nat, k ≤ ys.length ∧ i = .int .i64 k ∧ Hid (wr.rowIs w2.heap.size 26 m (fun j => if j < k then .int .u32 (ys.getD j 0) else .int .u32 0) ∧ Below w2.heap.size w2 wr)) (fun i _ => ys.length - (intOf i).toNat)
        case atStart => exact ⟨0, Nat.zero_le _, rfl, Lib.hid ⟨(World.rowIs_made w2 (.int .u32 0) m 26).congr (fun i _ => by simp), (Below.refl _ _).alloc (Nat.le_refl _) _⟩⟩
        case round =>
          obtain ⟨i, hi, rfl, HI⟩ := hrel
          by_cases hli : i < ys.length
          · obtain ⟨b, off, rfl, hx⟩ := row_cell HRB.out (by omega)
            have hx1 := hx i hli
            have hx2 : wr.cell? ⟨b, off + i, none⟩ = some (.int .u32 (ys.getD i 0)) := (HI.out.2.cell (p := ⟨b, off + i, none⟩) (lt_of_cell hx1)).trans hx1
            have hcm : ∃ u : Int, wr.cell? ⟨w2.heap.size, i, none⟩ = some (.int .u32 u) := ⟨0, by have := HI.out.1.cell (show i < m by omega); simpa using this⟩
            obtain ⟨u, hcm⟩ := hcm
            have hfr := HI.out.1.frozen i
            have hi1 : (i : Int) < (ys.length : Int) := by omega
            have hi2 : (i : Int) < (m : Int) := by omega
            clear hx hx1
            go_wp2_with fail
            go_roundw
            case rel => exact ⟨i + 1, by omega, by go_num, Lib.hid ⟨(HI.out.1.set i _).congr (fun j _ => by
                                                                                      rcases Nat.lt_trichotomy j i with h | h | h
                                                                                      · simp [h, Nat.ne_of_lt h, show j < i + 1 by omega]
                                                                                      · subst h; simp [List.getElem?_eq_getElem hli]
                                                                                      · simp [Nat.ne_of_gt h, show ¬ j < i by omega, show ¬ j < i + 1 by omega]), HI.out.2.setCell (Nat.le_refl _) _⟩⟩
            case measure => simp [intOf]; omega
          · obtain rfl : i = ys.length := by omega
            have hex : (ext ys m).length = m := by rw [length_ext]; omega
            have hom : wr.ownsRow w2.heap.size 26 1 (.slice (some ⟨w2.heap.size, 0, none⟩) m m) m ((ext ys m).map (Value.int .u32)) := by
              have h1 := owns_of_row (zs := ext ys m) HI.out.1 hex (by unfold maxLen; omega) (Nat.le_refl _) (fun j hj => by
                rw [getD_ext]
                split
                · rfl
                · rw [List.getD_eq_getElem?_getD, List.getElem?_eq_none (by omega)]; rfl)
              rwa [hex] at h1
            have hob : wr.ownsRow 0 26 1 (.slice b2 ys.length c2) ys.length (ys.map (Value.int .u32)) := owns_base (HO2.out.kept (one_of_below HI.out.2 (Nat.le_refl _) none) (by cases (Value.slice b2 ys.length c2).ownBlock <;> simp)) (Nat.zero_le _)
            have hbw : Below w.heap.size w wr := HB2.out.trans (HI.out.2.mono HB2.out.size)
            have hlt2 : w2.heap.size < wr.heap.size := HI.out.1.lt
            have HOM := Lib.hid hom
            have HOB := Lib.hid hob
            have HBW := Lib.hid hbw
            have HLT := Lib.hid hlt2
            clear hex hom hob hbw hlt2 HI
            go_wp2_with fail
            refine (zzND_any _ _ _ _).mono ?_
            rintro e w4 ⟨rfl, rfl⟩
            have HM := Lib.hid (MD.new HOB.out HW.out (by omega))
            have HO4 := Lib.hid (HOM.out.alloc (.cells #[.slice b2 ys.length c2] 40))
            have HB4 := Lib.hid (HBW.out.alloc HBW.out.size (.cells #[.slice b2 ys.length c2] 40))
            have HWB := Lib.hid (fun q hq => ⟨(own_block HO2.out q hq).1, Nat.ne_of_lt (own_block HO2.out q hq).2⟩ : ∀ q, blkOf b2 = some q → w.heap.size ≤ q ∧ q ≠ w2.heap.size)
            have HWM := Lib.hid HB2.out.size
            generalize wr.alloc (.cells #[.slice b2 ys.length c2] 40) = w4 at *
            generalize wr.heap.size = mm at *
            clear HRB HO2 HB2 HOM HOB HBW
            generalize w2.heap.size = mb at *
            go_wp2_with fail
            go_loopg [13] k (fun g v wq => ∃ (i : Nat) (ao : Option Addr) (cap : Nat) (us : List Int), g = k - i ∧ i ≤ k ∧ v = .int .i64 i ∧ Hid (MD wq mm ao cap us ∧ wq.ownsRow mb 26 1 (.slice (some ⟨mb, 0, none⟩) m m) m ((ext us m).map (Value.int .u32)) ∧ reach us.length (tk.drop i) = m ∧ Below w.heap.size w wq ∧ ∀ q, blkOf ao = some q → w.heap.size ≤ q ∧ q ≠ mb))
            case atStart => exact ⟨0, b2, c2, ys, rfl, Nat.zero_le _, rfl, Lib.hid ⟨HM.out, HO4.out, HL.out, HB4.out, HWB.out⟩⟩
            case round =>
              obtain ⟨i, ao, cap, us, rfl, hi, rfl, HI⟩ := hrel
              by_cases hli : i < k
              · have tl : decide ((i : Int) < (k : Int)) = true := decide_eq_true (by omega)
                have hi1 : (i : Int) < (sl.length : Int) := by omega
                have hi2 : (i : Int) < (pl.length : Int) := by omega
                obtain ⟨s, hs⟩ : ∃ s : Nat, sl.getD i 0 = (s : Int) := ⟨(sl.getD i 0).toNat, by have := HRG.out i hli; omega⟩
                have hsb : s < 65536 := by have := HRG.out i hli; omega
                have htks : tk.getD i 0 = (s : Int) := by rw [HTG.out i hli, hs]
                have hsL : s + 1 ≤ m := by rw [← HI.out.2.2.1]; exact reach_in (by rw [HTL.out]; exact hli) htks
                have huL : us.length ≤ m := by rw [← HI.out.2.2.1]; exact reach_ge _ _
                have hnx : reach (max us.length (s + 1)) (tk.drop (i + 1)) = m := by rw [← HI.out.2.2.1]; exact (reach_step (by rw [HTL.out]; exact hli) htks).symm
                have hs0 : (s : Int) < (m : Int) := by omega
                obtain ⟨b1, o1, rfl, hc1⟩ := row_cell HR1.out (by omega)
                obtain ⟨b3, o3, rfl, hc3⟩ := row_cell HR2.out (by omega)
                have hd1 := hc1 i (by omega)
                have hd3 := hc3 i (by omega)
                rw [hs] at hd1
                obtain ⟨p, hp⟩ : ∃ p, pl.getD i 0 = p := ⟨_, rfl⟩
                rw [hp] at hd3
                obtain ⟨u, hu⟩ : ∃ u, us.getD s 0 = u := ⟨_, rfl⟩
                have hx1 : wr.cell? ⟨b1, o1 + i, none⟩ = some (.int .i64 (s : Int)) := (HI.out.2.2.2.1.cell (p := ⟨b1, o1 + i, none⟩) (lt_of_cell hd1)).trans hd1
                have hx3 : wr.cell? ⟨b3, o3 + i, none⟩ = some (.int .i64 p) := (HI.out.2.2.2.1.cell (p := ⟨b3, o3 + i, none⟩) (lt_of_cell hd3)).trans hd3
                have hel : s < (ext us m).length := by rw [length_ext]; omega
                have hxm : wr.cell? ⟨mb, s, none⟩ = some (.int .u32 u) := by
                  rw [HI.out.2.1.cellAt s (by omega), List.getElem?_map, ← hu, ← getD_ext us m s, List.getD_eq_getElem?_getD, List.getElem?_eq_getElem hel]; rfl
                have HSC := zzSet_any (s := s) p HI.out.1 (by omega)
                rw [getD_ext, hu] at HSC
                have HS := Lib.hid HSC
                have HNX := Lib.hid hnx
                have HD3 := Lib.hid hd3
                have tu : (u == u) = true := beq_self_eq_true u
                clear hs htks hc1 hc3 hd1 hd3 hp hu hel HSC hnx
                go_wp2_with fail
                refine HS.out.mono ?_
                rintro e w5 ⟨rfl, ao5, cap5, hm5, hv5⟩
                have ho5 := hv5.owns HI.out.2.1 (fun q hq => by
                  simp only [blkOf, Option.map_some, Option.some.injEq] at hq
                  subst hq
                  exact ⟨by have := HLT.out; omega, fun e => (HI.out.2.2.2.2 _ e.symm).2 rfl⟩)
                have hb5 : Below w.heap.size w w5 := HI.out.2.2.2.1.trans (hv5.below (B := w.heap.size) (by have := HWM.out; have := HLT.out; omega) (fun q hq => (HI.out.2.2.2.2 q hq).1) HI.out.2.2.2.1.size)
                have hw5 : ∀ q, blkOf ao5 = some q → w.heap.size ≤ q ∧ q ≠ mb := fun q hq => by
                  rcases hv5.row with hr | hr
                  · exact HI.out.2.2.2.2 q (hr ▸ hq)
                  · have h1 := hr q hq
                    have h2 := HI.out.1.lt
                    have h3 := HI.out.2.2.2.1.size
                    have h4 := HLT.out
                    omega
                have hfr := ho5.frozenAt s
                have hxm5 : ∃ u : Int, w5.cell? ⟨mb, s, none⟩ = some (.int .u32 u) := by
                  rw [ho5.cellAt s (by omega), List.getElem?_map, List.getElem?_eq_getElem (by rw [length_ext]; omega)]
                  exact ⟨_, rfl⟩
                obtain ⟨u5, hxm5⟩ := hxm5
                have hx35 : w5.cell? ⟨b3, o3 + i, none⟩ = some (.int .i64 p) := (hb5.cell (p := ⟨b3, o3 + i, none⟩) (lt_of_cell HD3.out)).trans HD3.out
                have HM5 := Lib.hid hm5
                have HO5 := Lib.hid ho5
                have HB5 := Lib.hid hb5
                have HW5 := Lib.hid hw5
                clear hm5 ho5 hb5 hw5 hv5
                go_wp2_with fail
                go_roundg (k - (i + 1))
                case measure => omega
                case rel =>
                  refine ⟨i + 1, ao5, cap5, (ext us (s + 1)).set s (capW p), rfl, by omega, by go_num, Lib.hid ⟨HM5.out.kept (Below.heap_setCell _ _ _ _ (by have := HLT.out; intro e; simp at e; omega)) (fun q hq => Below.heap_setCell _ _ _ _ (by have := (HW5.out q hq).2; exact this)), ?_, ?_, HB5.out.setCell HWM.out _, HW5.out⟩⟩
                  · rw [ext_set (capW p) hsL huL, List.map_set]
                    exact (HO5.out.stored s (.int .u32 (capW p))).1
                  · rw [List.length_set, length_ext]; exact HNX.out
              · obtain rfl : i = k := by omega
                obtain rfl : m = us.length := by have := HI.out.2.2.1; rw [reach_end (by rw [HTL.out]; exact Nat.le_refl _)] at this; exact this.symm
                go_wp2_with fail
                refine (zzCaps_any HI.out.1).mono ?_
                rintro e w' ⟨rfl, rfl⟩
                have HX : Hid (Below w.heap.size w wr ∧ ∀ j, j < us.length → ∃ g6, ao = some ⟨g6, 0, none⟩ ∧ wr.cell? ⟨mb, j, none⟩ = some (.int .u32 (us.getD j 0)) ∧ wr.cell? ⟨g6, j, none⟩ = some (.int .u32 (us.getD j 0))) := Lib.hid ⟨HI.out.2.2.2.1, fun j hj => by
                  have hm := HI.out.1
                  obtain ⟨g6, rfl, _, _⟩ := hm.row (by omega)
                  refine ⟨g6, rfl, ?_, hm.cell j hj⟩
                  have ho := HI.out.2.1
                  rw [ext_same (Nat.le_refl _)] at ho
                  rw [ho.cellAt j (by omega), List.getElem?_map, List.getElem?_eq_getElem hj, List.getD_eq_getElem?_getD, List.getElem?_eq_getElem hj]; rfl⟩
                clear HI
                go_wp2_with fail
                go_loopg [18] us.length (fun g v wq => ∃ j : Nat, g = us.length - j ∧ j ≤ us.length ∧ v = .int .i64 j ∧ Hid (Below w.heap.size w wq ∧ ∀ j, j < us.length → ∃ g6, ao = some ⟨g6, 0, none⟩ ∧ wq.cell? ⟨mb, j, none⟩ = some (.int .u32 (us.getD j 0)) ∧ wq.cell? ⟨g6, j, none⟩ = some (.int .u32 (us.getD j 0))))
                case atStart => exact ⟨0, rfl, Nat.zero_le _, rfl, HX⟩
                case round =>
                  obtain ⟨j, rfl, hj, rfl, HI⟩ := hrel
                  by_cases hlj : j < us.length
                  · have tl : decide ((j : Int) < (us.length : Int)) = true := decide_eq_true (by omega)
                    have hji : (j : Int) < (us.length : Int) := by omega
                    have HI2 := HI
                    obtain ⟨g6, rfl, e1, e2⟩ := HI.out.2 j hlj
                    generalize hz : us.getD j 0 = z at e1 e2
                    clear hz
                    go_wp2_with fail
                    go_quiet (fail)
                    go_wp2_with fail
                    go_roundg (us.length - (j + 1))
                    case measure => omega
                    case rel => exact ⟨j + 1, by omega, by omega, by go_num, Lib.hid ⟨below_drewN HI2.out.1 _, HI2.out.2⟩⟩
                  · have tl : decide ((j : Int) < (us.length : Int)) = false := decide_eq_false (by omega)
                    have HI2 := HI
                    clear HI
                    go_wp2_with fail
                    go_ret
                    exact ⟨rfl, HI2.out.1⟩

/-! ### THE ROW's STEP: WRITTEN OUT: LEAVE IT -/
set_option maxRecDepth 100000 in
theorem lifted (os : Os) (started : os.Started) (H : Type) (enc : TypeId × Value → H) :
    ReturnsInHanded {} Try.checked os 3 .any (Rows.fnSetCaptureActsAsStoreSpec.pre6 enc Try.prog Try.f3 Rows.fnSetCaptureActsAsStoreRow.domain false) (Rows.fnSetCaptureActsAsStoreSpec.post enc Try.prog Try.f3 false true false false) := by
  refine returnsInHanded_of_change (C := Try.checked) own started (by kernel_rfl) Try.func3
    (ChangeSpec.witness6 (enc := enc) (C := Try.checked) false ⟨#[], #[.slice none 0 0, .slice none 0 0, .slice none 0 0], []⟩ 8 (by kernel_rfl) (by kernel_rfl) (by kernel_rfl) (by kernel_rfl)) ?_
  intro W base args ds gs before hval0 hW hcnd _
  have hval : ∀ (j : Nat) t v, Try.f3.params[j]? = some t → args[j]? = some v → Value.okWide Try.prog W .any base t v := hval0
  have hW' := hW
  obtain ⟨p, q, hA0, hV, rfl, hfz, hnd⟩ := hW
  have hA : DataW.TrodAll enc Try.prog W 0 (fun _ => true) true Try.f3.params.toList args.toList ds p := hA0
  rw [Try.params3] at hA hval
  obtain ⟨v0, vs0, d0, ds0, p0, q0, hargs, rfl, rfl, h0, r0⟩ := trodAll_cons hA
  obtain ⟨v1, vs1, d1, ds1, p1, q1, rfl, rfl, rfl, h1, r1⟩ := trodAll_cons r0
  obtain ⟨v2, vs2, d2, ds2, p2, q2, rfl, rfl, rfl, h2, r2⟩ := trodAll_cons r1
  obtain ⟨rfl, rfl, rfl⟩ := trodAll_nil r2
  obtain rfl : args = #[v0, v1, v2] := by cases args; simp_all
  obtain ⟨rfl, rfl⟩ := trodVars_none hV
  obtain ⟨a0, len0, cap0, rfl⟩ := okWide_slice Try.underlying22 (hval 0 22 v0 rfl rfl)
  have k0 := h0
  have lt0 : ∀ x ∈ p0, x.block < W.heap.size := by obtain ⟨m, hm⟩ := k0; exact DataW.trod_lt m _ _ _ hm
  obtain ⟨z0, w0⟩ : ∃ zs, IsRow .u32 W a0 len0 cap0 zs := by
    obtain ⟨fuel, hf⟩ := h0
    rcases open_ints Try.underlying22 Try.underlying26 (by kernel_rfl) hf with ⟨hcs, _⟩ | ⟨x, l, c, zs, hcs, _, hl, hm, hz, _, hcell, hwz⟩
    · simp [Value.cells] at hcs
      obtain ⟨rfl, rfl, rfl⟩ := hcs
      exact ⟨[], .inl ⟨rfl, rfl, rfl, rfl⟩⟩
    · simp [Value.cells] at hcs
      obtain ⟨rfl, rfl, rfl⟩ := hcs
      exact ⟨zs, .inr ⟨_, rfl, hl, hm, by simpa using hz, hcell, hwz⟩⟩
  obtain ⟨a1, len1, cap1, rfl⟩ := okWide_slice Try.underlying23 (hval 1 23 v1 rfl rfl)
  have k1 := h1
  have lt1 : ∀ x ∈ p1, x.block < W.heap.size := by obtain ⟨m, hm⟩ := k1; exact DataW.trod_lt m _ _ _ hm
  obtain ⟨z1, w1⟩ : ∃ zs, IsRow .i64 W a1 len1 cap1 zs := by
    obtain ⟨fuel, hf⟩ := h1
    rcases open_ints Try.underlying23 Try.underlying3 (by kernel_rfl) hf with ⟨hcs, _⟩ | ⟨x, l, c, zs, hcs, _, hl, hm, hz, _, hcell, hwz⟩
    · simp [Value.cells] at hcs
      obtain ⟨rfl, rfl, rfl⟩ := hcs
      exact ⟨[], .inl ⟨rfl, rfl, rfl, rfl⟩⟩
    · simp [Value.cells] at hcs
      obtain ⟨rfl, rfl, rfl⟩ := hcs
      exact ⟨zs, .inr ⟨_, rfl, hl, hm, by simpa using hz, hcell, hwz⟩⟩
  obtain ⟨a2, len2, cap2, rfl⟩ := okWide_slice Try.underlying23 (hval 2 23 v2 rfl rfl)
  have k2 := h2
  have lt2 : ∀ x ∈ p2, x.block < W.heap.size := by obtain ⟨m, hm⟩ := k2; exact DataW.trod_lt m _ _ _ hm
  obtain ⟨z2, w2⟩ : ∃ zs, IsRow .i64 W a2 len2 cap2 zs := by
    obtain ⟨fuel, hf⟩ := h2
    rcases open_ints Try.underlying23 Try.underlying3 (by kernel_rfl) hf with ⟨hcs, _⟩ | ⟨x, l, c, zs, hcs, _, hl, hm, hz, _, hcell, hwz⟩
    · simp [Value.cells] at hcs
      obtain ⟨rfl, rfl, rfl⟩ := hcs
      exact ⟨[], .inl ⟨rfl, rfl, rfl, rfl⟩⟩
    · simp [Value.cells] at hcs
      obtain ⟨rfl, rfl, rfl⟩ := hcs
      exact ⟨zs, .inr ⟨_, rfl, hl, hm, by simpa using hz, hcell, hwz⟩⟩
  clear hA0 hval0
  refine (walk a0 len0 cap0 z0 a1 len1 cap1 z1 a2 len2 cap2 z2 W w0 w1 w2).mono fun e W' ⟨he, bel⟩ => ?_
  subst he
  exact ⟨_, rfl, _, _, _, [], _, [], hW', trodAll_mk1 (shut_bool Try.underlying4 _), (trodAll_cons_mk (Below.trod laidOut (by kernel_rfl) (of_decide_eq_true (by kernel_rfl)) k0 bel lt0) (trodAll_cons_mk (Below.trod laidOut (by kernel_rfl) (of_decide_eq_true (by kernel_rfl)) k1 bel lt1) (trodAll_cons_mk (Below.trod laidOut (by kernel_rfl) (of_decide_eq_true (by kernel_rfl)) k2 bel lt2) trodAll_mk0))), rfl, bel.frame _, fun h => by cases h⟩

theorem over : Rows.fnSetCaptureActsAsStoreRow.holds Try.pinned (OpenSpec.ofChange Rows.fnSetCaptureActsAsStoreSpec) :=
  OpenClaim.holds_of_wide 3 Try.f3 rfl rfl rfl rfl rfl rfl rfl ⟨rfl, rfl, rfl, rfl, rfl⟩ rfl rfl rfl rfl rfl (by kernel_rfl) Try.func3 (by kernel_rfl)
    (of_decide_eq_true (by kernel_rfl)) (by unfold Func.isWrapper; first | (rw [if_pos (by decide +kernel)]; kernel_rfl) | (rw [if_neg (by decide +kernel)]; exact ⟨rfl, rfl⟩))
    (fun os started H enc _ => lifted os started H enc)

/-- ████ THE STATEMENT ████ -/
theorem proved : Rows.FnSetCaptureActsAsStoreSaid := over
#print axioms proved
end Go.Proofs.Ytlokpjjjpgjbcaa.fnSetCaptureActsAsStore
