/-
  The given statement on FnTop2: for every input the law returns true and leaves its arguments as they were. No condition beyond the statement's own; no text of fmt is come to.
-/
import Derived.Test.YtcfhhcjcnafcjaaFmtLaw2
import Derived.Laws.IdiomStrings
import Derived.Test.YtcfhhcjcnafcjaaFmtRows
import Derived.Test.YtcfhhcjcnafcjaaFmtCards
import Derived.WalkKit
import Derived.ProofKit
import Derived.OpenShut
import Derived.ShutString
import Derived.ChangeOld
import Derived.Below
import Derived.Stop.JoinedAt
import Derived.Stop.JoinedTold
import Derived.SevenToldRow
namespace Go.Proofs.YtcfhhcjcnafcjaaFmt.fnTop2
open Go.ChangeShapes Go.WideShapes Go.ChangeAt Go.RowKit
open Go.ChangeMaps (open_string shut_string)
open Go.Extern.Stop Go.Stop Go.Extern
set_option linter.unusedVariables false
set_option linter.unusedSimpArgs false

theorem own : ownKnob Tryf.prog.godebug = none := by kernel_rfl
theorem laidOut : laidOutB Tryf.prog = true := by kernel_rfl
theorem stops : Tryf.pinned.checked.prog.stops = ["fmt.Sprintf, its operands' methods called"] := by kernel_rfl
theorem stopKnobs : Tryf.pinned.checked.prog.stopKnobs = [] := by kernel_rfl
theorem quiet (os : Os) : Stop.quiet Tryf.pinned.checked.prog os := by
  intro k hk
  rw [stopKnobs] at hk
  cases hk

/-- What the walk is told of a slice of integers that came in. -/
def IsRow (k : IntKind) (w : World) (a : Option Addr) (len cap : Nat) (zs : List Int) : Prop :=
  (a = none ∧ len = 0 ∧ cap = 0 ∧ zs = []) ∨
  ∃ x, a = some x ∧ len ≤ cap ∧ cap ≤ maxLen ∧ zs.length = cap ∧ (∀ i, i < zs.length → w.cell? (x.add i) = some (.int k (zs.getD i 0))) ∧ ∀ n ∈ zs, (Lit.int k n).wf = true

/-- What 'IsRow' says, over the elements alone. -/
theorem isRow_told {k : IntKind} {w : World} {a : Option Addr} {len cap : Nat} {zs : List Int} (h : IsRow k w a len cap zs) :
    ∃ ys : List Int, ys.length = len ∧ RowInt k w a ys ∧ (a = none → ys.length = 0) ∧ len ≤ 9223372036854775807 ∧ (∀ n, n ∈ ys → (Lit.int k n).wf = true) := by
  rcases h with ⟨rfl, rfl, rfl, rfl⟩ | ⟨x, rfl, hl, hm, hz, hcell, hwz⟩
  · exact ⟨[], rfl, fun h0 => absurd h0 (Nat.lt_irrefl _), fun _ => rfl, by omega, fun n hn => by simp at hn⟩
  · refine ⟨zs.take len, by simp; omega, fun h0 => ?_, fun h0 => (by cases h0), by unfold maxLen at hm; omega, fun n hn => hwz n (List.mem_of_mem_take hn)⟩
    have h0' : 0 < len := by simp at h0; omega
    have hsp : x.spot = none := by simpa [Addr.add] using World.cell?_spot (hcell 0 (by omega))
    obtain ⟨b, off, spot⟩ := x
    simp only at hsp
    subst hsp
    refine ⟨b, off, rfl, fun i hi => ?_⟩
    have h1 := hcell i (by simp at hi; omega)
    rw [addr_add] at h1
    rw [h1]
    simp only [List.length_take] at hi
    rw [List.getD_eq_getElem?_getD, List.getD_eq_getElem?_getD, List.getElem?_take_of_lt (by omega)]

/-- The choice of the defect and the rest of the code. -/
def Chosen (w : World) (v9 v10 : Value) (wc : World) : Prop :=
  wc = w ∧ ∃ (d : Nat) (ab : Option Addr) (cb : Nat) (zb : List Int), v9 = .int .i64 (d : Int) ∧ d ≤ 3 ∧ v10 = .slice ab zb.length cb ∧ RowInt .u8 w ab zb ∧ (∀ x, ab = some x → x.block < w.heap.size) ∧ (∀ z, z ∈ zb → 0 ≤ z ∧ z ≤ 255) ∧ zb.length ≤ 1048576
theorem byte_wf {zs : List Int} (h : ∀ n, n ∈ zs → (Lit.int .u8 n).wf = true) : ∀ z, z ∈ zs → 0 ≤ z ∧ z ≤ 255 := by
  intro z hz
  have := h z hz
  simp [Lit.wf, IntKind.min, IntKind.max, IntKind.signed, IntKind.bits] at this
  omega

set_option maxHeartbeats 4000000
set_option maxRecDepth 1000000
/-! ### THE WALK -/
theorem walk (a0 : Option Addr) (len0 cap0 : Nat) (z0 : List Int) (a1 : Option Addr) (len1 cap1 : Nat) (z1 : List Int) (a2 : Int) (a3 : Int) (w : World) (w0 : IsRow .u8 w a0 len0 cap0 z0) (w1 : IsRow .u8 w a1 len1 cap1 z1) (w2 : (Lit.int .i64 a2).wf = true) (w3 : (Lit.int .i64 a3).wf = true) :
    Calls Tryf.prog 4 #[.slice a0 len0 cap0, .slice a1 len1 cap1, .int .i64 a2, .int .i64 a3] w fun e w' => e = .returned (.bool true) ∧ Below w.heap.size w w' := by
  obtain ⟨ys, rfl, hrow, hnil, hmx, hwf⟩ := isRow_told w0
  have HBY := Lib.hid (byte_wf hwf)
  obtain ⟨n, hn⟩ : ∃ n, ys.length = n := ⟨_, rfl⟩
  rw [hn] at w0 hmx hnil ⊢
  have HN := Lib.hid hn
  have HROW := Lib.hid hrow
  have HIS := Lib.hid w0
  clear hwf hn hrow w0 hnil hmx
  by_cases q : 1048576 < n
  · go_enter Tryf.func4, Tryf.ntmps4
    go_wp2
    go_ret
    exact ⟨rfl, Below.refl _ _⟩
  by_cases q1 : 1048576 < len1
  · go_enter Tryf.func4, Tryf.ntmps4
    go_wp2
    go_ret
    exact ⟨rfl, Below.refl _ _⟩
  go_enter Tryf.func4, Tryf.ntmps4
  go_upto_if 27 with (fail)
  go_cut [9, 10] (fun v9 v10 wc => Chosen w v9 v10 wc)
  case first =>
    rcases Nat.eq_zero_or_pos n with hz | hz
    · subst hz
      go_wp2
      go_meet
      case rel => exact ⟨rfl, 0, none, 0, [], rfl, by omega, rfl, fun h => absurd h (Nat.lt_irrefl _), fun x hx => (by cases hx), fun z hz => by simp at hz, by simp⟩
    · obtain ⟨y, yt, sb, so, hys, rfl, hcap, hc, hsb⟩ : ∃ y yt sb so, ys = y :: yt ∧ a0 = some ⟨sb, so, none⟩ ∧ n ≤ cap0 ∧ (∀ i, i < n → w.cell? ⟨sb, so + i, none⟩ = some (.int .u8 (ys.getD i 0))) ∧ sb < w.heap.size := by
        have hn := HN.out
        obtain ⟨sb, so, rfl, hc⟩ := HROW.out (by omega)
        match ys, hn with
        | [], hn => simp at hn; omega
        | y :: yt, hn =>
          refine ⟨y, yt, sb, so, rfl, rfl, ?_, fun i hi => hc i (by omega), ?_⟩
          · rcases HIS.out with ⟨h, -⟩ | ⟨x, hx, hl, hm, -⟩
            · cases h
            · exact hl
          · have k0 := hc 0 (by simp)
            rcases Nat.lt_or_ge sb w.heap.size with h | h
            · exact h
            · rw [World.cell?, Array.getElem?_eq_none h] at k0; simp at k0
      have k0 : w.cell? ⟨sb, so, none⟩ = some (.int .u8 y) := by have := hc 0 hz; rw [hys] at this; simpa using this
      have hy := HBY.out y (by rw [hys]; simp)
      have hy0 := hy.1
      have hy1 := hy.2
      have hwr : IntKind.i64.wrap y = y := IntWalk.i64_in _ (by omega)
      obtain ⟨d, hd⟩ : ∃ d : Nat, y % 4 = (d : Int) := ⟨(y % 4).toNat, by omega⟩
      have hd3 : d ≤ 3 := by omega
      have htm : Int.tmod y 4 = (d : Int) := by rw [Int.tmod_eq_emod_of_nonneg hy0, hd]
      have HC := Lib.hid hc
      have HYS := Lib.hid hys
      have hn1 : 1 ≤ (n : Int) := by omega
      clear hc hy hd hys
      have hyt : n - 1 = yt.length := by have h := HN.out; rw [HYS.out] at h; simp at h; omega
      have HYT := Lib.hid hyt
      clear hyt
      rcases (show cap0 = 1 ∨ ¬ cap0 = 1 by omega) with rfl | hc1
      · go_wp2_with fail
        go_meet
        case rel =>
          refine ⟨rfl, d, some ⟨sb, so, none⟩, 0, yt, rfl, hd3, by rw [show yt.length = 0 by have := HYT.out; omega], fun h => ?_, fun x hx => ?_, fun z hz => HBY.out z (by rw [HYS.out]; simp [hz]), by have := HYT.out; omega⟩
          · exact absurd h (by have := HYT.out; omega)
          · injection hx with hx; subst hx; exact hsb
      · go_wp2_with fail
        go_meet
        case rel =>
          refine ⟨rfl, d, some ⟨sb, so + 1, none⟩, cap0 - 1, yt, rfl, hd3, by rw [HYT.out], fun h => ⟨sb, so + 1, rfl, fun i hi => ?_⟩, fun x hx => ?_, fun z hz => HBY.out z (by rw [HYS.out]; simp [hz]), by have := HYT.out; omega⟩
          · have h1 := HC.out (i + 1) (by have := HYT.out; omega)
            rw [HYS.out] at h1
            rw [show so + 1 + i = so + (i + 1) by omega]
            simpa using h1
          · injection hx with hx; subst hx; exact hsb
  obtain ⟨rfl, d, ab, cb, zb, rfl, hd3, rfl, hrb, hbb, hbyb, hlb⟩ := hcut
  have HDE := Lib.hid (decode_any (cap := cb) hrb hbb hbyb hlb false)
  generalize hzb : zb.length = m at HDE
  have hm : m ≤ 1048576 := by omega
  clear hrb hbb hbyb hlb HROW HBY HIS HN hzb
  go_wp2_with fail
  refine HDE.out.mono ?_
  rintro e w4 ⟨p, rfl, hfin⟩
  obtain ⟨an, tl, nc, txt, ts, ps, aT, aK, aP, cT, cK, cP, ks, hat, hwf, hb4⟩ := hfin
  obtain rfl : tl = false := by
    cases tl with
    | false => rfl
    | true => exact absurd (hwf.tlW rfl) (by simp)
  have HTS := Lib.hid hwf.tsE
  have HTX : Hid ((if an then [94] else []) ++ txts ts = txt) := Lib.hid (by rw [hwf.tx]; simp)
  have hltx := hwf.ltx
  have HB4 := Lib.hid hb4
  have HAT := Lib.hid hat
  have HOT := Lib.hid hat.ownT
  have hpb := hat.blk
  have kp0 := blk_cell (blk_alloc hpb (.cells #[] 5)) 0 _ rfl
  obtain ⟨iu, hiu, hu0, hu1, hu2⟩ := info_parts u8_info
  have HOE := Lib.hid (World.ownsRow_lit (e := 5) (size := 1) (base := w4.heap.size) w4 #[] 0 (Nat.le_refl _) (Nat.zero_le _) rfl)
  obtain ⟨k, hk⟩ : ∃ k, txt.length = k := ⟨_, rfl⟩
  have HK := Lib.hid hk
  rw [hk] at kp0 hltx HOT
  clear hat hwf hb4 HDE hpb HAT hk
  go_upto_region 11 with (fail)
  go_cut [12] (fun v12 w5 => ∃ g c, v12 = .slice (some ⟨g, 0, none⟩) k c ∧ w5.ownsRow w4.heap.size 5 1 (.slice (some ⟨g, 0, none⟩) k c) k (u8s txt) ∧ Below w4.heap.size w4 w5)
  case first =>
    rcases Nat.eq_zero_or_pos k with hz | hz
    · have HZ := Lib.hid hz
      clear hz
      go_wp2_with (at_builtin; go_loud (refine wpList_append_none _ rfl (.tmp 37) (.tmp 41) 22 rfl 5 iu Tryf.underlying22 hiu ⟨w4.heap.size, 0, none⟩ 0 0 cT k aT rfl (by omega) rfl HZ.out ?_))
      go_meet
      case rel =>
        have htx : txt = [] := List.length_eq_zero_iff.1 (HK.out.trans HZ.out)
        exact ⟨w4.heap.size, 0, by rw [HZ.out], by rw [htx, HZ.out]; exact HOE.out, (Below.refl _ _).alloc (Nat.le_refl _) _⟩
    · obtain ⟨tg, rfl⟩ := row_some HOT.out hz
      have HTC : Hid (∀ (j : Nat) (u : Value), (u8s txt)[j]? = some u → (w4.alloc (.cells #[] 5)).cell? ((⟨tg, 0, none⟩ : Addr).add j) = some u) := Lib.hid (fun j u hj => by
        rw [addr_add, Nat.zero_add]
        have hj' : j < k := by
          have := (List.getElem?_eq_some_iff.1 hj).1
          rw [← HK.out]; simpa [u8s] using this
        refine ((HOT.out.alloc (.cells #[] 5)).cellAt j (by omega)).trans ?_
        exact hj)
      have hlu : (u8s txt).length = k * 1 := by rw [← HK.out]; simp [u8s]
      have h1c : ∀ u, u ∈ u8s txt → u.oneCell' = true := by intro u hu; simp only [u8s, List.mem_map] at hu; obtain ⟨z, _, rfl⟩ := hu; rfl
      have HH := Lib.hid hlu
      have H1 := Lib.hid h1c
      clear hlu h1c
      go_wp2_with (at_builtin; go_loud (refine wpList_push _ rfl (.tmp 37) (.tmp 41) 22 rfl w4.heap.size 5 iu (.int .u8 0) 1 1 Tryf.underlying22 hiu hu0 hu1 hu2 rfl (by decide) _ _ _ _ rfl HOE.out ⟨tg, 0, none⟩ k cT (u8s txt) rfl HH.out HTC.out H1.out (by omega) (by unfold maxLen; omega) (by omega) (by simp) ?_; intro g1 c1 w8 hown hgrow hwhere; have HO := Lib.hid hown; have HGw := Lib.hid hgrow; have HWh := Lib.hid hwhere; clear hown hgrow hwhere))
      go_meet
      case rel =>
        refine ⟨g1, c1, rfl, by have := HO.out; rw [Nat.zero_add] at this; exact this, ?_⟩
        exact ((Below.refl _ _).alloc (Nat.le_refl _) _).trans (one_below HGw.out (Nat.le_refl _) (by simp))
  obtain ⟨g, c, rfl, ho5, hb5⟩ := hcut
  have HO5 := Lib.hid ho5
  have HB5 := Lib.hid (HB4.out.trans (hb5.mono HB4.out.size))
  have hcut5 := hb5.size
  have HB4s := HB4.out.size
  clear ho5 hb5 HOT HOE HB4
  have HB5s := hcut5
  have HBY2 : Hid (∀ z, z ∈ txt ++ defect d → 0 ≤ z ∧ z ≤ 255) := Lib.hid (fun z hz => by
    rw [List.mem_append] at hz
    rcases hz with hz | hz
    · rw [← HTX.out] at hz
      rw [List.mem_append] at hz
      rcases hz with hz | hz
      · cases an <;> simp at hz; omega
      · exact ts_byte HTS.out z hz
    · exact def_byte z hz)
  rcases (show d = 0 ∨ d = 1 ∨ d = 2 ∨ d = 3 by omega) with rfl | rfl | rfl | rfl
  · have HBAD := Lib.hid (bad_ptop (d := 0) an HTS.out (by omega))
    rw [HTX.out] at HBAD
    go_wp2_with (at_builtin; go_loud (refine wpList_push _ rfl (.tmp 52) (.tmp 53) 22 rfl w4.heap.size 5 iu (.int .u8 0) 1 1 Tryf.underlying22 hiu hu0 hu1 hu2 rfl (by decide) _ _ _ _ rfl (HO5.out.alloc _) ⟨wc.heap.size, 0, none⟩ 1 1 [.int .u8 40] rfl rfl (news_any (by simp)) (by simp [Value.oneCell']) (by decide) (by unfold maxLen; omega) (by omega) (Nat.le_trans HB5s (by simp)) ?_; intro g1 c1 w8 hown hgrow hwhere; have HGw := Lib.hid hgrow; obtain ⟨sb, hsb, hcv⟩ := conv_row (n := k + 1) (zs := txt ++ [40]) (by rw [List.length_append, HK.out]; rfl) (by rw [u8s_app]; exact hown) HBY2.out; have HSB := Lib.hid hsb; have HSZ : Hid (sb.size = k + 1) := Lib.hid (by rw [← bz_length, hsb, List.length_append, HK.out]; rfl); have HGO := Lib.hid (own_type hown g1 rfl); clear hown hgrow hwhere hsb))
    all_goals
      refine (find_err sb _ a2 a3 (must := an) (by rw [HSZ.out]; omega) (by rw [HSZ.out]; omega) (by rw [HSB.out]; exact HBAD.out)).mono ?_
      rintro e w9 ⟨gE, rfl, hbE, hb9⟩
      have HBE := Lib.hid hbE
      have HB9 := Lib.hid hb9
      have ke0 := blk_cell hbE 0 _ rfl
      have ke1 := blk_cell hbE 1 _ rfl
      have hlen : (txt ++ defect 0).length = k + 1 := by rw [List.length_append, HK.out]; rfl
      rw [hlen] at ke0
      simp only [defPos, defMsg, errTxt] at ke0 ke1
      clear hbE hb9 hlen
      go_wp2_with fail
      go_ret
      have hg5 := (owns_lt HO5.out g rfl).1
      have hs5 := HB5.out.size
      have hs8 := HGw.out.size
      have h8 := (HB5.out.alloc hs5 _).trans (one_below HGw.out (Nat.le_trans HB4s hg5) (by simp; omega))
      exact ⟨rfl, h8.trans (HB9.out.mono h8.size)⟩
  · have HBAD := Lib.hid (bad_ptop (d := 1) an HTS.out (by omega))
    rw [HTX.out] at HBAD
    go_wp2_with (at_builtin; go_loud (refine wpList_push _ rfl (.tmp 57) (.tmp 58) 22 rfl w4.heap.size 5 iu (.int .u8 0) 1 1 Tryf.underlying22 hiu hu0 hu1 hu2 rfl (by decide) _ _ _ _ rfl (HO5.out.alloc _) ⟨wc.heap.size, 0, none⟩ 1 1 [.int .u8 41] rfl rfl (news_any (by simp)) (by simp [Value.oneCell']) (by decide) (by unfold maxLen; omega) (by omega) (Nat.le_trans HB5s (by simp)) ?_; intro g1 c1 w8 hown hgrow hwhere; have HGw := Lib.hid hgrow; obtain ⟨sb, hsb, hcv⟩ := conv_row (n := k + 1) (zs := txt ++ [41]) (by rw [List.length_append, HK.out]; rfl) (by rw [u8s_app]; exact hown) HBY2.out; have HSB := Lib.hid hsb; have HSZ : Hid (sb.size = k + 1) := Lib.hid (by rw [← bz_length, hsb, List.length_append, HK.out]; rfl); have HGO := Lib.hid (own_type hown g1 rfl); clear hown hgrow hwhere hsb))
    all_goals
      refine (find_err sb _ a2 a3 (must := an) (by rw [HSZ.out]; omega) (by rw [HSZ.out]; omega) (by rw [HSB.out]; exact HBAD.out)).mono ?_
      rintro e w9 ⟨gE, rfl, hbE, hb9⟩
      have HBE := Lib.hid hbE
      have HB9 := Lib.hid hb9
      have ke0 := blk_cell hbE 0 _ rfl
      have ke1 := blk_cell hbE 1 _ rfl
      have hlen : (txt ++ defect 1).length = k + 1 := by rw [List.length_append, HK.out]; rfl
      rw [hlen] at ke0
      simp only [defPos, defMsg, errTxt] at ke0 ke1
      clear hbE hb9 hlen
      go_wp2_with fail
      go_ret
      have hg5 := (owns_lt HO5.out g rfl).1
      have hs5 := HB5.out.size
      have hs8 := HGw.out.size
      have h8 := (HB5.out.alloc hs5 _).trans (one_below HGw.out (Nat.le_trans HB4s hg5) (by simp; omega))
      exact ⟨rfl, h8.trans (HB9.out.mono h8.size)⟩
  · have HBAD := Lib.hid (bad_ptop (d := 2) an HTS.out (by omega))
    rw [HTX.out] at HBAD
    go_wp2_with (at_builtin; go_loud (refine wpList_push _ rfl (.tmp 67) (.tmp 68) 22 rfl w4.heap.size 5 iu (.int .u8 0) 1 1 Tryf.underlying22 hiu hu0 hu1 hu2 rfl (by decide) _ _ _ _ rfl (HO5.out.alloc _) ⟨wc.heap.size, 0, none⟩ 2 2 [.int .u8 37, .int .u8 48] rfl rfl (news_any (by simp)) (by simp [Value.oneCell']) (by decide) (by unfold maxLen; omega) (by omega) (Nat.le_trans HB5s (by simp)) ?_; intro g1 c1 w8 hown hgrow hwhere; have HGw := Lib.hid hgrow; obtain ⟨sb, hsb, hcv⟩ := conv_row (n := k + 2) (zs := txt ++ [37, 48]) (by rw [List.length_append, HK.out]; rfl) (by rw [u8s_app]; exact hown) HBY2.out; have HSB := Lib.hid hsb; have HSZ : Hid (sb.size = k + 2) := Lib.hid (by rw [← bz_length, hsb, List.length_append, HK.out]; rfl); have HGO := Lib.hid (own_type hown g1 rfl); clear hown hgrow hwhere hsb))
    all_goals
      refine (find_err sb _ a2 a3 (must := an) (by rw [HSZ.out]; omega) (by rw [HSZ.out]; omega) (by rw [HSB.out]; exact HBAD.out)).mono ?_
      rintro e w9 ⟨gE, rfl, hbE, hb9⟩
      have HBE := Lib.hid hbE
      have HB9 := Lib.hid hb9
      have ke0 := blk_cell hbE 0 _ rfl
      have ke1 := blk_cell hbE 1 _ rfl
      have hlen : (txt ++ defect 2).length = k + 2 := by rw [List.length_append, HK.out]; rfl
      rw [hlen] at ke0
      simp only [defPos, defMsg, errTxt] at ke0 ke1
      clear hbE hb9 hlen
      go_wp2_with fail
      go_ret
      have hg5 := (owns_lt HO5.out g rfl).1
      have hs5 := HB5.out.size
      have hs8 := HGw.out.size
      have h8 := (HB5.out.alloc hs5 _).trans (one_below HGw.out (Nat.le_trans HB4s hg5) (by simp; omega))
      exact ⟨rfl, h8.trans (HB9.out.mono h8.size)⟩
  · have HBAD := Lib.hid (bad_ptop (d := 3) an HTS.out (by omega))
    rw [HTX.out] at HBAD
    go_wp2_with (at_builtin; go_loud (refine wpList_push _ rfl (.tmp 44) (.tmp 45) 22 rfl w4.heap.size 5 iu (.int .u8 0) 1 1 Tryf.underlying22 hiu hu0 hu1 hu2 rfl (by decide) _ _ _ _ rfl (HO5.out.alloc _) ⟨wc.heap.size, 0, none⟩ 1 1 [.int .u8 91] rfl rfl (news_any (by simp)) (by simp [Value.oneCell']) (by decide) (by unfold maxLen; omega) (by omega) (Nat.le_trans HB5s (by simp)) ?_; intro g1 c1 w8 hown hgrow hwhere; have HGw := Lib.hid hgrow; obtain ⟨sb, hsb, hcv⟩ := conv_row (n := k + 1) (zs := txt ++ [91]) (by rw [List.length_append, HK.out]; rfl) (by rw [u8s_app]; exact hown) HBY2.out; have HSB := Lib.hid hsb; have HSZ : Hid (sb.size = k + 1) := Lib.hid (by rw [← bz_length, hsb, List.length_append, HK.out]; rfl); have HGO := Lib.hid (own_type hown g1 rfl); clear hown hgrow hwhere hsb))
    all_goals
      refine (find_err sb _ a2 a3 (must := an) (by rw [HSZ.out]; omega) (by rw [HSZ.out]; omega) (by rw [HSB.out]; exact HBAD.out)).mono ?_
      rintro e w9 ⟨gE, rfl, hbE, hb9⟩
      have HBE := Lib.hid hbE
      have HB9 := Lib.hid hb9
      have ke0 := blk_cell hbE 0 _ rfl
      have ke1 := blk_cell hbE 1 _ rfl
      have hlen : (txt ++ defect 3).length = k + 1 := by rw [List.length_append, HK.out]; rfl
      rw [hlen] at ke0
      simp only [defPos, defMsg, errTxt] at ke0 ke1
      clear hbE hb9 hlen
      go_wp2_with fail
      go_ret
      have hg5 := (owns_lt HO5.out g rfl).1
      have hs5 := HB5.out.size
      have hs8 := HGw.out.size
      have h8 := (HB5.out.alloc hs5 _).trans (one_below HGw.out (Nat.le_trans HB4s hg5) (by simp; omega))
      exact ⟨rfl, h8.trans (HB9.out.mono h8.size)⟩

/-! ### THE ROW's STEP -/
set_option maxRecDepth 100000 in
theorem lifted (os : Os) (started : os.Started) (H : Type) (enc : TypeId × Value → H) :
    ReturnsInTold none {} Tryf.checked os 4 .any Input.okWide ((OpenSpec.ofChange Rows.fnTop2Spec).preRow enc Tryf.prog Tryf.f4 [] false []) (fun G => ((OpenSpec.ofChange Rows.fnTop2Spec).at G).post enc Tryf.prog Tryf.f4 false true false false) (aloneAtReturn Tryf.prog) nothingAlways := by
  refine returnsInTold_of_row (C := Tryf.checked) (s := OpenSpec.ofChange Rows.fnTop2Spec) (by kernel_rfl) own started (by kernel_rfl) Tryf.func4
    (OpenSpec.witness_stopped (enc := enc) (C := Tryf.checked) false ⟨#[], #[.slice none 0 0, .slice none 0 0, .int .i64 0, .int .i64 0], []⟩ 8 (by kernel_rfl) (by kernel_rfl) (by kernel_rfl) (by kernel_rfl)) ?_
  intro G W base args ds gs before _ hF hval0 hW _ _ _ _ _
  have hval : ∀ (j : Nat) t v, Tryf.f4.params[j]? = some t → args[j]? = some v → Value.okWide Tryf.prog W .any base t v := hval0
  have hW' := hW
  obtain ⟨p, q, hA0, hV, rfl, hfz, hnd⟩ := hW
  have hA : DataW.TrodAll enc Tryf.prog W 0 (fun _ => true) true Tryf.f4.params.toList args.toList ds p := hA0
  rw [Tryf.params4] at hA hval
  obtain ⟨v0, vs0, d0, ds0, p0, q0, hargs, rfl, rfl, h0, r0⟩ := trodAll_cons hA
  obtain ⟨v1, vs1, d1, ds1, p1, q1, rfl, rfl, rfl, h1, r1⟩ := trodAll_cons r0
  obtain ⟨v2, vs2, d2, ds2, p2, q2, rfl, rfl, rfl, h2, r2⟩ := trodAll_cons r1
  obtain ⟨v3, vs3, d3, ds3, p3, q3, rfl, rfl, rfl, h3, r3⟩ := trodAll_cons r2
  obtain ⟨rfl, rfl, rfl⟩ := trodAll_nil r3
  obtain rfl : args = #[v0, v1, v2, v3] := by cases args; simp_all
  obtain ⟨rfl, rfl⟩ := trodVars_none hV
  obtain ⟨a0, len0, cap0, rfl⟩ := okWide_slice Tryf.underlying22 (hval 0 22 v0 rfl rfl)
  have k0 := h0
  have lt0 : ∀ x ∈ p0, x.block < W.heap.size := by obtain ⟨m, hm⟩ := k0; exact DataW.trod_lt m _ _ _ hm
  obtain ⟨z0, w0⟩ : ∃ zs, IsRow .u8 W a0 len0 cap0 zs := by
    obtain ⟨fuel, hf⟩ := h0
    rcases open_ints Tryf.underlying22 Tryf.underlying5 (by kernel_rfl) hf with ⟨hcs, _⟩ | ⟨x, l, c, zs, hcs, _, hl, hm, hz, _, hcell, hwz⟩
    · simp [Value.cells] at hcs
      obtain ⟨rfl, rfl, rfl⟩ := hcs
      exact ⟨[], .inl ⟨rfl, rfl, rfl, rfl⟩⟩
    · simp [Value.cells] at hcs
      obtain ⟨rfl, rfl, rfl⟩ := hcs
      exact ⟨zs, .inr ⟨_, rfl, hl, hm, by simpa using hz, hcell, hwz⟩⟩
  obtain ⟨a1, len1, cap1, rfl⟩ := okWide_slice Tryf.underlying22 (hval 1 22 v1 rfl rfl)
  have k1 := h1
  have lt1 : ∀ x ∈ p1, x.block < W.heap.size := by obtain ⟨m, hm⟩ := k1; exact DataW.trod_lt m _ _ _ hm
  obtain ⟨z1, w1⟩ : ∃ zs, IsRow .u8 W a1 len1 cap1 zs := by
    obtain ⟨fuel, hf⟩ := h1
    rcases open_ints Tryf.underlying22 Tryf.underlying5 (by kernel_rfl) hf with ⟨hcs, _⟩ | ⟨x, l, c, zs, hcs, _, hl, hm, hz, _, hcell, hwz⟩
    · simp [Value.cells] at hcs
      obtain ⟨rfl, rfl, rfl⟩ := hcs
      exact ⟨[], .inl ⟨rfl, rfl, rfl, rfl⟩⟩
    · simp [Value.cells] at hcs
      obtain ⟨rfl, rfl, rfl⟩ := hcs
      exact ⟨zs, .inr ⟨_, rfl, hl, hm, by simpa using hz, hcell, hwz⟩⟩
  obtain ⟨a2, rfl, rfl, rfl, w2⟩ := open_int Tryf.underlying3 (hval 2 3 v2 rfl rfl) h2
  obtain ⟨a3, rfl, rfl, rfl, w3⟩ := open_int Tryf.underlying3 (hval 3 3 v3 rfl rfl) h3
  clear hA0 hval0
  refine (walk a0 len0 cap0 z0 a1 len1 cap1 z1 a2 a3 W w0 w1 w2 w3).mono fun e W' ⟨he, bel⟩ => ?_
  subst he
  exact ⟨_, rfl, _, _, _, [], _, [], hW', trodAll_mk1 (shut_bool Tryf.underlying4 _), (trodAll_cons_mk (Below.trod laidOut (by kernel_rfl) (of_decide_eq_true (by kernel_rfl)) k0 bel lt0) (trodAll_cons_mk (Below.trod laidOut (by kernel_rfl) (of_decide_eq_true (by kernel_rfl)) k1 bel lt1) (trodAll_cons_mk (shut_int Tryf.underlying3 w2) (trodAll_cons_mk (shut_int Tryf.underlying3 w3) trodAll_mk0)))), rfl, bel.frame _, fun h => by cases h⟩

/-- ████ THE STATEMENT ████ -/
theorem proved : Rows.FnTop2ToldSaid :=
  Claim7.holds_of_told_any 4 Tryf.f4 "fmt.Sprintf, its operands' methods called" [] [] (true, "7fe0e18d4801f5510581eaabd5e611255cbc4be29933de171e6957ac9d5c99a2") true false (by kernel_rfl) rfl rfl rfl laidOut (by kernel_rfl) rfl ⟨rfl, rfl, rfl, rfl, rfl, rfl, rfl⟩ rfl rfl (by kernel_rfl) (by kernel_rfl) Tryf.func4 (by kernel_rfl)
    (of_decide_eq_true (by kernel_rfl)) (by unfold Func.isWrapper; first | (rw [if_pos (by decide +kernel)]; kernel_rfl) | (rw [if_neg (by decide +kernel)]; exact ⟨rfl, rfl⟩)) stops.symm rfl stopKnobs.symm (by kernel_rfl)
    (by kernel_rfl) (by kernel_rfl) (by kernel_rfl) (by kernel_rfl) (by kernel_rfl) (by kernel_rfl) (by kernel_rfl) (by kernel_rfl) (by kernel_rfl) rfl (by kernel_rfl) rfl rfl
    rfl rfl
    rfl (by kernel_rfl) (by kernel_rfl) (by kernel_rfl) (by decide) (by kernel_rfl)
    (OpenClaim.moreEntering_of (by kernel_rfl) (by kernel_rfl) (by kernel_rfl) (by kernel_rfl) (by kernel_rfl) (by kernel_rfl) (by kernel_rfl) (by kernel_rfl) (by kernel_rfl) (by kernel_rfl))
    ⟨_, WideRow.started_initial, quiet _⟩
    (fun os started _ H enc _ => lifted os started H enc)
#print axioms proved
end Go.Proofs.YtcfhhcjcnafcjaaFmt.fnTop2
