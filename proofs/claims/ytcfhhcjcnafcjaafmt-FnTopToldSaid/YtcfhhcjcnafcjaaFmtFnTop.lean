/-
  The given statement on FnTop: for every input the law returns true and leaves its arguments as they were. No condition beyond the statement's own; no text of fmt is come to.
-/
import Derived.Test.YtcfhhcjcnafcjaaFmtTopEnd
import Derived.Laws.IdiomStrings
import Derived.BigQuiet
import Derived.BigGuardPart
import Derived.Test.YtcfhhcjcnafcjaaFmtRows
import Derived.Test.YtcfhhcjcnafcjaaFmtCards
import Derived.WalkKit
import Derived.ProofKit
import Derived.OpenShut
import Derived.ShutString
import Derived.ChangeOld
import Derived.Below
import Derived.Stop.JoinedAt
import Derived.Stop.JoinedTold
import Derived.SevenToldRow
namespace Go.Proofs.YtcfhhcjcnafcjaaFmt.fnTop
open Go.ChangeShapes Go.WideShapes Go.ChangeAt Go.RowKit
open Go.ChangeMaps (open_string shut_string)
open Go.Extern.Stop Go.Stop Go.Extern
set_option linter.unusedVariables false
set_option linter.unusedSimpArgs false

theorem own : ownKnob Tryf.prog.godebug = none := by kernel_rfl
theorem laidOut : laidOutB Tryf.prog = true := by kernel_rfl
theorem stops : Tryf.pinned.checked.prog.stops = ["fmt.Sprintf, its operands' methods called"] := by kernel_rfl
theorem stopKnobs : Tryf.pinned.checked.prog.stopKnobs = [] := by kernel_rfl
theorem quiet (os : Os) : Stop.quiet Tryf.pinned.checked.prog os := by
  intro k hk
  rw [stopKnobs] at hk
  cases hk

/-- What the walk is told of a slice of integers that came in. -/
def IsRow (k : IntKind) (w : World) (a : Option Addr) (len cap : Nat) (zs : List Int) : Prop :=
  (a = none ∧ len = 0 ∧ cap = 0 ∧ zs = []) ∨
  ∃ x, a = some x ∧ len ≤ cap ∧ cap ≤ maxLen ∧ zs.length = cap ∧ (∀ i, i < zs.length → w.cell? (x.add i) = some (.int k (zs.getD i 0))) ∧ ∀ n ∈ zs, (Lit.int k n).wf = true

/-- What 'IsRow' says, over the elements alone. -/
theorem isRow_told {k : IntKind} {w : World} {a : Option Addr} {len cap : Nat} {zs : List Int} (h : IsRow k w a len cap zs) :
    ∃ ys : List Int, ys.length = len ∧ RowInt k w a ys ∧ (a = none → ys.length = 0) ∧ len ≤ 9223372036854775807 ∧ (∀ n, n ∈ ys → (Lit.int k n).wf = true) := by
  rcases h with ⟨rfl, rfl, rfl, rfl⟩ | ⟨x, rfl, hl, hm, hz, hcell, hwz⟩
  · exact ⟨[], rfl, fun h0 => absurd h0 (Nat.lt_irrefl _), fun _ => rfl, by omega, fun n hn => by simp at hn⟩
  · refine ⟨zs.take len, by simp; omega, fun h0 => ?_, fun h0 => (by cases h0), by unfold maxLen at hm; omega, fun n hn => hwz n (List.mem_of_mem_take hn)⟩
    have h0' : 0 < len := by simp at h0; omega
    have hsp : x.spot = none := by simpa [Addr.add] using World.cell?_spot (hcell 0 (by omega))
    obtain ⟨b, off, spot⟩ := x
    simp only at hsp
    subst hsp
    refine ⟨b, off, rfl, fun i hi => ?_⟩
    have h1 := hcell i (by simp at hi; omega)
    rw [addr_add] at h1
    rw [h1]
    simp only [List.length_take] at hi
    rw [List.getD_eq_getElem?_getD, List.getD_eq_getElem?_getD, List.getElem?_take_of_lt (by omega)]

theorem byte_wf {zs : List Int} (h : ∀ n, n ∈ zs → (Lit.int .u8 n).wf = true) : ∀ z, z ∈ zs → 0 ≤ z ∧ z ≤ 255 := by
  intro z hz
  have := h z hz
  simp [Lit.wf, IntKind.min, IntKind.max, IntKind.signed, IntKind.bits] at this
  omega
theorem isRow_le {k : IntKind} {w : World} {a : Option Addr} {len cap : Nat} {zs : List Int} (h : IsRow k w a len cap zs) : len ≤ cap := by
  rcases h with ⟨_, rfl, rfl, _⟩ | ⟨x, _, hl, _⟩
  · exact Nat.le_refl _
  · exact hl
theorem row_blk {w : World} {a : Option Addr} {zs : List Int} (h : RowInt .u8 w a zs) : 0 < zs.length → ∀ x, a = some x → x.block < w.heap.size := fun h0 x hx => by
  obtain ⟨sb, so, e, hc⟩ := h h0
  rw [hx] at e
  injection e with e
  subst e
  exact lt_of_cell (hc 0 h0)

set_option maxHeartbeats 8000000
set_option maxRecDepth 1000000
/-! ### THE WALK -/
theorem walk (a0 : Option Addr) (len0 cap0 : Nat) (z0 : List Int) (a1 : Option Addr) (len1 cap1 : Nat) (z1 : List Int) (a2 : Int) (a3 : Int) (w : World) (w0 : IsRow .u8 w a0 len0 cap0 z0) (w1 : IsRow .u8 w a1 len1 cap1 z1) (w2 : (Lit.int .i64 a2).wf = true) (w3 : (Lit.int .i64 a3).wf = true) :
    Calls Tryf.prog 3 #[.slice a0 len0 cap0, .slice a1 len1 cap1, .int .i64 a2, .int .i64 a3] w fun e w' => e = .returned (.bool true) ∧ Below w.heap.size w w' := by
  have hcap1 := isRow_le w1
  obtain ⟨ys, rfl, hrow, hnil, hmx, hwf⟩ := isRow_told w0
  obtain ⟨zs, rfl, hrow1, hnil1, hmx1, hwf1⟩ := isRow_told w1
  have HBY := Lib.hid (byte_wf hwf)
  have HBZ := Lib.hid (byte_wf hwf1)
  have HROW := Lib.hid hrow
  have HROZ := Lib.hid hrow1
  have hb2 := bounds_i64 w2
  clear hwf hrow w0 hnil hwf1 hrow1 w1 hnil1 w2 w3
  by_cases q : 1048576 < ys.length
  · have q' : decide ((1048576 : Int) < (ys.length : Int)) = true := decide_eq_true (by omega)
    go_enter Tryf.func3, Tryf.ntmps3
    go_wp2
    go_ret
    exact ⟨rfl, Below.refl _ _⟩
  have q' : decide ((1048576 : Int) < (ys.length : Int)) = false := decide_eq_false (by omega)
  by_cases q1 : 256 < zs.length
  · have q1' : decide ((256 : Int) < (zs.length : Int)) = true := decide_eq_true (by omega)
    go_enter Tryf.func3, Tryf.ntmps3
    go_wp2
    go_ret
    exact ⟨rfl, Below.refl _ _⟩
  have q1' : decide ((256 : Int) < (zs.length : Int)) = false := decide_eq_false (by omega)
  by_cases q2 : a2 < 0
  · have q2' : decide (a2 < (0 : Int)) = true := decide_eq_true q2
    go_enter Tryf.func3, Tryf.ntmps3
    go_wp2
    go_ret
    exact ⟨rfl, Below.refl _ _⟩
  obtain ⟨off, rfl⟩ : ∃ off : Nat, a2 = (off : Int) := ⟨a2.toNat, by omega⟩
  have hoff : off ≤ 9223372036854775807 := by omega
  have q2' : decide ((off : Int) < (0 : Int)) = false := decide_eq_false q2
  have HDE := Lib.hid (decode_any (cap := cap0) HROW.out HBY.out (by omega) true)
  clear hb2 q2
  go_enter Tryf.func3, Tryf.ntmps3
  go_wp2_with fail
  refine HDE.out.mono ?_
  rintro e w4 ⟨p, rfl, hfin⟩
  obtain ⟨an, tl, nc, txt, ts, ps, aT, aK, aP, cT, cK, cP, ks, hat, hwf, hb4⟩ := hfin
  have HWF := Lib.hid hwf
  have HB4 := Lib.hid hb4
  have HAT := Lib.hid hat
  clear hat hwf hb4 HDE
  have hfind := top_find (w := w4) (scap := cap1) (limit := a3) (off := off) HWF.out (row_belowX HROZ.out (row_blk HROZ.out) HB4.out) (fun h0 x hx => Nat.lt_of_lt_of_le (row_blk HROZ.out h0 x hx) HB4.out.size) HBZ.out (by omega) hcap1 hoff HAT.out
  obtain ⟨R, hR1, hR2⟩ := hfind
  have HREF := Lib.hid hR1
  have HFND := Lib.hid hR2
  clear hR1 hR2
  go_wp2_with fail
  refine HREF.out.mono ?_
  rintro e w5 ⟨g, cap, vs, rfl, ho5, hm5, hb5⟩
  have HO5 := Lib.hid ho5
  have HM5 := Lib.hid hm5
  have HB5 := Lib.hid hb5
  clear ho5 hm5 hb5 HREF
  obtain ⟨sb, hcv, Q, hQ1, hQ2, hQ3⟩ := HFND.out w5 HB5.out
  have kp0 := blk_cell ((HB5.out.block p (blk_lt HAT.out.blk)).trans HAT.out.blk) 0 _ rfl
  have HQ1 := Lib.hid hQ1
  have HQ3 := Lib.hid hQ3
  clear hQ1 hQ3 HFND
  go_wp2_with fail
  refine HQ1.out.mono ?_
  rintro e w6 ⟨gf, capf, vf, rfl, hof, hmf, hbf⟩
  have HOF := Lib.hid hof
  have HMF := Lib.hid hmf
  have HBF := Lib.hid hbf
  clear hof hmf hbf HQ1 hcv
  obtain ⟨n, hn⟩ : ∃ n, R.length = n := ⟨_, rfl⟩
  have hqn : Q.length = n := hQ2.trans hn
  have HRN := Lib.hid hn
  have HQN := Lib.hid hqn
  rw [hn] at HO5 ⊢
  rw [hqn] at HOF ⊢
  have hnmx : n ≤ 9223372036854775807 := owns_max HOF.out
  clear hQ2 hn hqn
  go_wp2_with fail
  have hs45 := HB5.out.size
  have hs56 := HBF.out.size
  have HBW : Hid (Below w.heap.size w w6) := Lib.hid ((HB4.out.trans (HB5.out.mono HB4.out.size)).trans (HBF.out.mono (Nat.le_trans HB4.out.size hs45)))
  have hsw6 := HBW.out.size
  clear kp0
  go_loopg [13] n (fun k v13 wr => ∃ i : Nat, k = n - i ∧ i ≤ n ∧ v13 = .int .i64 (i : Int) ∧ Hid (Below w6.heap.size w6 wr))
  case atStart => exact ⟨0, rfl, Nat.zero_le _, rfl, Lib.hid (Below.refl _ _)⟩
  case round =>
    obtain ⟨i, rfl, hi, rfl, HBR⟩ := hrel
    by_cases hlt : i < n
    · have tl1 : decide ((i : Int) < (n : Int)) = true := decide_eq_true (by omega)
      have hii : (i : Int) < (n : Int) := by omega
      obtain ⟨us, hus⟩ : ∃ us, Q[i]? = some us := ⟨_, List.getElem?_eq_getElem (by rw [HQN.out]; exact hlt)⟩
      obtain ⟨mm, hmm⟩ : ∃ mm, R[i]? = some mm := ⟨_, List.getElem?_eq_getElem (by rw [HRN.out]; exact hlt)⟩
      have hme := HQ3.out i us mm hus hmm
      obtain ⟨m, aom, capm, hvm, hmd⟩ := HMF.out.get i us hus
      obtain ⟨b1, d1, b2, d2, hv1, hv2, hw1, hw2⟩ := HM5.out.get i mm hmm
      have hbwr := HBF.out.trans (HBR.out.mono hs56)
      have kg : wr.cell? ⟨gf, i, none⟩ = some (.pointer (some ⟨m, 0, none⟩)) := (HBR.out.cell (p := ⟨gf, i, none⟩) (owns_lt HOF.out gf rfl).2).trans ((HOF.out.cellAt i (by omega)).trans hvm)
      have kw0 : wr.cell? ⟨g, i * 2, none⟩ = some (.slice b1 mm.1.length d1) := (hbwr.cell (p := ⟨g, i * 2, none⟩) (owns_lt HO5.out g rfl).2).trans ((HO5.out.cellAt (i * 2) (by omega)).trans hv1)
      have kw1 : wr.cell? ⟨g, i * 2 + 1, none⟩ = some (.slice b2 mm.2.length d2) := (hbwr.cell (p := ⟨g, i * 2 + 1, none⟩) (owns_lt HO5.out g rfl).2).trans ((HO5.out.cellAt (i * 2 + 1) (by omega)).trans hv2)
      have HMD : Hid (∀ W, Below wr.heap.size wr W → MD W m aom capm us) := Lib.hid (fun W hb => (hmd.kept ((HBR.out.block m hmd.lt)) (fun x hx => HBR.out.block x (hmd.row' x hx).2)).kept (hb.block m (Nat.lt_of_lt_of_le hmd.lt HBR.out.size)) (fun x hx => hb.block x (Nat.lt_of_lt_of_le (hmd.row' x hx).2 HBR.out.size)))
      have HR1 : Hid (∀ W, Below wr.heap.size wr W → W.ownsRow 0 3 1 (.slice b1 mm.1.length d1) mm.1.length (ints mm.1)) := Lib.hid (fun W hb => owns_kept hw1 (fun q o _ ho => ((hbwr.trans (hb.mono (Nat.le_trans hs56 HBR.out.size))).block q (blk_lt ho)).trans ho))
      have HR2 : Hid (∀ W, Below wr.heap.size wr W → W.ownsRow 0 4 1 (.slice b2 mm.2.length d2) mm.2.length (bools mm.2)) := Lib.hid (fun W hb => owns_kept hw2 (fun q o _ ho => ((hbwr.trans (hb.mono (Nat.le_trans hs56 HBR.out.size))).block q (blk_lt ho)).trans ho))
      obtain ⟨L, hL⟩ : ∃ L, mm.1.length = L := ⟨_, rfl⟩
      have hul : us.length = L := hme.1.trans hL
      have hml : mm.2.length = L := hme.2.1.trans hL
      have hLmx : L ≤ 2147483648 := by rw [← hul]; exact hmd.len
      have HME := Lib.hid hme.2.2
      have HUL := Lib.hid hul
      rw [hL] at kw0 HR1
      rw [hml] at kw1 HR2
      have HML := Lib.hid hml
      have HLL := Lib.hid hL
      clear hus hmm hme hvm hmd hv1 hv2 hw1 hw2 hbwr hul hml hL
      obtain ⟨wA, rfl⟩ : ∃ x, x = wr := ⟨_, rfl⟩
      go_upto_region 21 with (fail)
      have hbA := (Below.refl wA.heap.size wA).alloc (Nat.le_refl _) (.cells #[.slice b1 L d1, .slice b2 L d2] 39)
      have HBX := Lib.hid (blk_new wA (.cells #[.slice b1 L d1, .slice b2 L d2] 39))
      have kb0 : (wA.alloc (.cells #[.slice b1 L d1, .slice b2 L d2] 39)).cell? ⟨wA.heap.size, 0, none⟩ = some (.slice b1 L d1) := blk_cell HBX.out 0 _ rfl
      have HBA := Lib.hid hbA
      have hsA := hbA.size
      clear hbA
      generalize wA.alloc (.cells #[.slice b1 L d1, .slice b2 L d2] 39) = wB at *
      have HCL : Hid (∀ q : Nat, Calls Tryf.prog 8 #[.pointer (some ⟨m, 0, none⟩)] (wB.drewN q) fun e' w'' => e' = .returned (.int .i64 (L : Int)) ∧ w'' = wB.drewN q) := Lib.hid (fun q => by
        have h := capLen_any ((HMD.out wB HBA.out).drewO q)
        rw [HUL.out] at h
        exact h.mono fun _ _ h => ⟨h.1, h.2.symm⟩)
      go_quiet ((exact Calls.quiet_of_same (HCL.out _)))
      generalize hwd : World.drewN wB _ = wd
      have HBD : Hid (Below wA.heap.size wA wd) := by subst hwd; exact Lib.hid (below_drewN HBA.out _)
      have HXD : Hid (wd.heap[wA.heap.size]? = some (.cells #[.slice b1 L d1, .slice b2 L d2] 39 (0, 0))) := by subst hwd; exact Lib.hid (blk_drewN HBX.out _)
      clear hwd kb0 kg kw0 kw1
      go_wp2_with fail
      go_loopg [16] L (fun k v16 wr => ∃ j : Nat, k = L - j ∧ j ≤ L ∧ v16 = .int .i64 (j : Int) ∧ Hid (Below wA.heap.size wA wr) ∧ Hid (wr.heap[wA.heap.size]? = some (.cells #[.slice b1 L d1, .slice b2 L d2] 39 (0, 0))))
      case atStart => exact ⟨0, rfl, Nat.zero_le _, rfl, HBD, HXD⟩
      case round =>
        obtain ⟨j, rfl, hj, rfl, HBJ, HXJ⟩ := hrel
        have kb0 := blk_cell HXJ.out 0 _ rfl
        have kb1 := blk_cell HXJ.out 1 _ rfl
        by_cases hjl : j < L
        · have tl2 : decide ((j : Int) < (L : Int)) = true := decide_eq_true (by omega)
          have hji : (j : Int) < (L : Int) := by omega
          obtain ⟨e1, rfl⟩ := row_some (HR1.out wr HBJ.out) (by omega)
          obtain ⟨e2, rfl⟩ := row_some (HR2.out wr HBJ.out) (by omega)
          have hmj := HME.out j (by rw [HUL.out]; exact hjl)
          obtain ⟨v, hv⟩ : ∃ v, mm.1.getD j 0 = v := ⟨_, rfl⟩
          obtain ⟨bb, hbb⟩ : ∃ bb, mm.2.getD j false = bb := ⟨_, rfl⟩
          rw [hv, hbb] at hmj
          have kc : wr.cell? ⟨e1, j, none⟩ = some (.int .i64 (v : Int)) := by
            refine ((HR1.out wr HBJ.out).cellAt j (by omega)).trans ?_
            have hj2 : j < mm.1.length := by rw [HLL.out]; exact hjl
            rw [List.getD_eq_getElem?_getD, List.getElem?_eq_getElem hj2] at hv
            rw [ints_get, List.getElem?_eq_getElem hj2, ← hv]; rfl
          have kp : wr.cell? ⟨e2, j, none⟩ = some (.bool bb) := by
            refine ((HR2.out wr HBJ.out).cellAt j (by omega)).trans ?_
            have hj2 : j < mm.2.length := by rw [HML.out]; exact hjl
            rw [List.getD_eq_getElem?_getD, List.getElem?_eq_getElem hj2] at hbb
            simp [bools, List.getElem?_eq_getElem hj2]
            simpa using hbb
          have HC1 : Hid (∀ q : Nat, Calls Tryf.prog 9 #[.pointer (some ⟨m, 0, none⟩), .int .i64 (j : Int)] (wr.drewN q) fun e' w'' => e' = .returned (.int .i64 (v : Int)) ∧ w'' = wr.drewN q) := Lib.hid (fun q => (cap_is j (v : Int) ((HMD.out wr HBJ.out).drewO q) (by rw [HUL.out]; exact hjl) (Lib.hid hmj.1)).mono fun _ _ h => ⟨h.1, h.2.symm⟩)
          have HC2 : Hid (∀ q : Nat, Calls Tryf.prog 10 #[.pointer (some ⟨m, 0, none⟩), .int .i64 (j : Int)] (wr.drewN q) fun e' w'' => e' = .returned (.bool bb) ∧ w'' = wr.drewN q) := Lib.hid (fun q => (isPos_is j bb ((HMD.out wr HBJ.out).drewO q) (by rw [HUL.out]; exact hjl) (Lib.hid hmj.2)).mono fun _ _ h => ⟨h.1, h.2.symm⟩)
          have tv : ((v : Int) != (v : Int)) = false := by simp
          have tbb : (bb != bb) = false := by simp
          clear hmj hv hbb
          go_upto_region 26 with (fail)
          go_quiet (first | exact Calls.quiet_of_same (HC1.out _) | exact Calls.quiet_of_same (HC2.out _))
          generalize hwd : World.drewN wr _ = we
          have HBE : Hid (Below wA.heap.size wA we) := by subst hwd; exact Lib.hid (below_drewN HBJ.out _)
          have HXE : Hid (we.heap[wA.heap.size]? = some (.cells #[.slice (some ⟨e1, 0, none⟩) L d1, .slice (some ⟨e2, 0, none⟩) L d2] 39 (0, 0))) := by subst hwd; exact Lib.hid (blk_drewN HXJ.out _)
          clear hwd kc kp kb0 kb1
          go_wp2_with fail
          go_roundg (L - (j + 1))
          case measure => omega
          case rel => exact ⟨j + 1, rfl, by omega, by first | rfl | (congr 1; omega), HBE, HXE⟩
        · obtain rfl : j = L := by omega
          have tl2 : decide ((j : Int) < (j : Int)) = false := decide_eq_false (by omega)
          go_wp2_with fail
          go_roundg (n - (i + 1))
          case measure => omega
          case rel => exact ⟨i + 1, rfl, by omega, by first | rfl | (congr 1; omega), Lib.hid (HBR.out.trans (HBJ.out.mono HBR.out.size))⟩
    · obtain rfl : i = n := by omega
      have tl1 : decide ((i : Int) < (i : Int)) = false := decide_eq_false (by omega)
      go_wp2_with fail
      go_ret
      exact ⟨rfl, HBW.out.trans (HBR.out.mono hsw6)⟩

/-! ### THE ROW's STEP -/
set_option maxRecDepth 100000 in
theorem lifted (os : Os) (started : os.Started) (H : Type) (enc : TypeId × Value → H) :
    ReturnsInTold none {} Tryf.checked os 3 .any Input.okWide ((OpenSpec.ofChange Rows.fnTopSpec).preRow enc Tryf.prog Tryf.f3 [] false []) (fun G => ((OpenSpec.ofChange Rows.fnTopSpec).at G).post enc Tryf.prog Tryf.f3 false true false false) (aloneAtReturn Tryf.prog) nothingAlways := by
  refine returnsInTold_of_row (C := Tryf.checked) (s := OpenSpec.ofChange Rows.fnTopSpec) (by kernel_rfl) own started (by kernel_rfl) Tryf.func3
    (OpenSpec.witness_stopped (enc := enc) (C := Tryf.checked) false ⟨#[], #[.slice none 0 0, .slice none 0 0, .int .i64 0, .int .i64 0], []⟩ 8 (by kernel_rfl) (by kernel_rfl) (by kernel_rfl) (by kernel_rfl)) ?_
  intro G W base args ds gs before _ hF hval0 hW _ _ _ _ _
  have hval : ∀ (j : Nat) t v, Tryf.f3.params[j]? = some t → args[j]? = some v → Value.okWide Tryf.prog W .any base t v := hval0
  have hW' := hW
  obtain ⟨p, q, hA0, hV, rfl, hfz, hnd⟩ := hW
  have hA : DataW.TrodAll enc Tryf.prog W 0 (fun _ => true) true Tryf.f3.params.toList args.toList ds p := hA0
  rw [Tryf.params3] at hA hval
  obtain ⟨v0, vs0, d0, ds0, p0, q0, hargs, rfl, rfl, h0, r0⟩ := trodAll_cons hA
  obtain ⟨v1, vs1, d1, ds1, p1, q1, rfl, rfl, rfl, h1, r1⟩ := trodAll_cons r0
  obtain ⟨v2, vs2, d2, ds2, p2, q2, rfl, rfl, rfl, h2, r2⟩ := trodAll_cons r1
  obtain ⟨v3, vs3, d3, ds3, p3, q3, rfl, rfl, rfl, h3, r3⟩ := trodAll_cons r2
  obtain ⟨rfl, rfl, rfl⟩ := trodAll_nil r3
  obtain rfl : args = #[v0, v1, v2, v3] := by cases args; simp_all
  obtain ⟨rfl, rfl⟩ := trodVars_none hV
  obtain ⟨a0, len0, cap0, rfl⟩ := okWide_slice Tryf.underlying22 (hval 0 22 v0 rfl rfl)
  have k0 := h0
  have lt0 : ∀ x ∈ p0, x.block < W.heap.size := by obtain ⟨m, hm⟩ := k0; exact DataW.trod_lt m _ _ _ hm
  obtain ⟨z0, w0⟩ : ∃ zs, IsRow .u8 W a0 len0 cap0 zs := by
    obtain ⟨fuel, hf⟩ := h0
    rcases open_ints Tryf.underlying22 Tryf.underlying5 (by kernel_rfl) hf with ⟨hcs, _⟩ | ⟨x, l, c, zs, hcs, _, hl, hm, hz, _, hcell, hwz⟩
    · simp [Value.cells] at hcs
      obtain ⟨rfl, rfl, rfl⟩ := hcs
      exact ⟨[], .inl ⟨rfl, rfl, rfl, rfl⟩⟩
    · simp [Value.cells] at hcs
      obtain ⟨rfl, rfl, rfl⟩ := hcs
      exact ⟨zs, .inr ⟨_, rfl, hl, hm, by simpa using hz, hcell, hwz⟩⟩
  obtain ⟨a1, len1, cap1, rfl⟩ := okWide_slice Tryf.underlying22 (hval 1 22 v1 rfl rfl)
  have k1 := h1
  have lt1 : ∀ x ∈ p1, x.block < W.heap.size := by obtain ⟨m, hm⟩ := k1; exact DataW.trod_lt m _ _ _ hm
  obtain ⟨z1, w1⟩ : ∃ zs, IsRow .u8 W a1 len1 cap1 zs := by
    obtain ⟨fuel, hf⟩ := h1
    rcases open_ints Tryf.underlying22 Tryf.underlying5 (by kernel_rfl) hf with ⟨hcs, _⟩ | ⟨x, l, c, zs, hcs, _, hl, hm, hz, _, hcell, hwz⟩
    · simp [Value.cells] at hcs
      obtain ⟨rfl, rfl, rfl⟩ := hcs
      exact ⟨[], .inl ⟨rfl, rfl, rfl, rfl⟩⟩
    · simp [Value.cells] at hcs
      obtain ⟨rfl, rfl, rfl⟩ := hcs
      exact ⟨zs, .inr ⟨_, rfl, hl, hm, by simpa using hz, hcell, hwz⟩⟩
  obtain ⟨a2, rfl, rfl, rfl, w2⟩ := open_int Tryf.underlying3 (hval 2 3 v2 rfl rfl) h2
  obtain ⟨a3, rfl, rfl, rfl, w3⟩ := open_int Tryf.underlying3 (hval 3 3 v3 rfl rfl) h3
  clear hA0 hval0
  refine (walk a0 len0 cap0 z0 a1 len1 cap1 z1 a2 a3 W w0 w1 w2 w3).mono fun e W' ⟨he, bel⟩ => ?_
  subst he
  exact ⟨_, rfl, _, _, _, [], _, [], hW', trodAll_mk1 (shut_bool Tryf.underlying4 _), (trodAll_cons_mk (Below.trod laidOut (by kernel_rfl) (of_decide_eq_true (by kernel_rfl)) k0 bel lt0) (trodAll_cons_mk (Below.trod laidOut (by kernel_rfl) (of_decide_eq_true (by kernel_rfl)) k1 bel lt1) (trodAll_cons_mk (shut_int Tryf.underlying3 w2) (trodAll_cons_mk (shut_int Tryf.underlying3 w3) trodAll_mk0)))), rfl, bel.frame _, fun h => by cases h⟩

/-- ████ THE STATEMENT ████ -/
theorem proved : Rows.FnTopToldSaid :=
  Claim7.holds_of_told_any 3 Tryf.f3 "fmt.Sprintf, its operands' methods called" [] [] (true, "7fe0e18d4801f5510581eaabd5e611255cbc4be29933de171e6957ac9d5c99a2") true false (by kernel_rfl) rfl rfl rfl laidOut (by kernel_rfl) rfl ⟨rfl, rfl, rfl, rfl, rfl, rfl, rfl⟩ rfl rfl (by kernel_rfl) (by kernel_rfl) Tryf.func3 (by kernel_rfl)
    (of_decide_eq_true (by kernel_rfl)) (by unfold Func.isWrapper; first | (rw [if_pos (by decide +kernel)]; kernel_rfl) | (rw [if_neg (by decide +kernel)]; exact ⟨rfl, rfl⟩)) stops.symm rfl stopKnobs.symm (by kernel_rfl)
    (by kernel_rfl) (by kernel_rfl) (by kernel_rfl) (by kernel_rfl) (by kernel_rfl) (by kernel_rfl) (by kernel_rfl) (by kernel_rfl) (by kernel_rfl) rfl (by kernel_rfl) rfl rfl
    rfl rfl
    rfl (by kernel_rfl) (by kernel_rfl) (by kernel_rfl) (by decide) (by kernel_rfl)
    (OpenClaim.moreEntering_of (by kernel_rfl) (by kernel_rfl) (by kernel_rfl) (by kernel_rfl) (by kernel_rfl) (by kernel_rfl) (by kernel_rfl) (by kernel_rfl) (by kernel_rfl) (by kernel_rfl))
    ⟨_, WideRow.started_initial, quiet _⟩
    (fun os started _ H enc _ => lifted os started H enc)
#print axioms proved
end Go.Proofs.YtcfhhcjcnafcjaaFmt.fnTop
