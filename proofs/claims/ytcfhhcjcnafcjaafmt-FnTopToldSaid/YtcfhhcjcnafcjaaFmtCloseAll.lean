/-
  The contract of closeOne; definitions for the decoder's loop. Conditions as each statement says.
-/
import Derived.Test.YtcfhhcjcnafcjaaFmtCloseR2
import Derived.Test.YtcfhhcjcnafcjaaFmtCloseR3
import Derived.Test.YtcfhhcjcnafcjaaFmtCloseR5
import Derived.Test.YtcfhhcjcnafcjaaFmtCloseR6
import Derived.Test.YtcfhhcjcnafcjaaFmtDecBase
import Derived.Test.YtcfhhcjcnafcjaaFmtPatAll
namespace Go.Proofs.YtcfhhcjcnafcjaaFmt
open Go.RowKit
set_option linter.unusedVariables false
set_option linter.unusedSimpArgs false


set_option maxRecDepth 100000 in
set_option maxHeartbeats 40000000 in
theorem close_any {w0 w : World} {B r p d nc : Nat} {an tl : Bool} {R : Fin 6 → Rw} {ts : List Tk} {txt : List Int} {ps : List Bool} {op ct cl : List Nat} {n c : Nat} (h : DecS w0 w B r p d an tl nc R ts) (hc : Cont R txt ps (op ++ [n]) (ct ++ [c]) cl) (hn : n ≤ 1048576) (hcb : c ≤ 1048576) (ho : op.length ≤ 16) (hct : ct.length = op.length) (hcl : cl.length ≤ 16) (ht : txt.length ≤ 4194304) (hk : ts.length ≤ 4194304) :
    Calls Tryf.prog 14 #[.pointer (some ⟨d, 0, none⟩)] w fun e w' => e = .returned (.tuple #[]) ∧ DPost w0 B r p d an tl nc (ts ++ (if c = 0 then [.cls (.lit 97) 0] else []) ++ [.clo n]) (txt ++ (if c = 0 then [97] else []) ++ [41]) ps op ct (cl ++ [n]) w' := by
  obtain ⟨iu, hiu, hu0, hu1, hu2⟩ := info_parts u8_info
  obtain ⟨ik, hik, ik0, ik1, ik2⟩ := info_parts tok_info
  obtain ⟨ii, hii, hi0, hi1, hi2⟩ := info_parts int_info
  have H := Lib.hid h
  have hon := hc.on
  have hcn := hc.cn
  have htn := hc.tn
  have hkn := h.tn
  have hln := hc.ln
  have e3 : (R 3).n = op.length + 1 := by rw [hon]; simp
  have e4 : (R 4).n = op.length + 1 := by rw [hcn]; simp [hct]
  obtain ⟨g3, hg3⟩ := row_some h.own3 (by omega)
  obtain ⟨g4, hg4⟩ := row_some h.own4 (by omega)
  have k3 : w.cell? ⟨g3, op.length, none⟩ = some (.int .i64 (n : Int)) := by
    have h3 := h.own3
    rw [hg3] at h3
    refine (h3.cellAt op.length (by omega)).trans ?_
    rw [hc.ox, ints_get]
    simp
  have k4 : w.cell? ⟨g4, op.length, none⟩ = some (.int .i64 (c : Int)) := by
    have h4 := h.own4
    rw [hg4] at h4
    refine (h4.cellAt op.length (by omega)).trans ?_
    rw [hc.cx, ints_get, ← hct]
    simp
  have HC := Lib.hid hc
  have HG3 := Lib.hid hg3
  have HG4 := Lib.hid hg4
  obtain ⟨k, hk0⟩ : ∃ k, op.length = k := ⟨_, rfl⟩
  have kd0 : w.cell? ⟨d, 0, none⟩ = some (.pointer (some ⟨p, 0, none⟩)) := blk_cell h.dblk 0 _ rfl
  have kd1 := blk_cell h.dblk 1 _ rfl
  have kd2 := blk_cell h.dblk 2 _ rfl
  rw [hg3, e3] at kd1
  rw [hg4, e4] at kd2
  rw [hk0] at k3 k4 kd1 kd2 ho
  have E3 := Lib.hid e3
  have E4 := Lib.hid e4
  have HK := Lib.hid hk0
  have hb1 : (k : Int) < (k : Int) + 1 := by omega
  have hb2 : (k : Int) < ((k + 1 : Nat) : Int) := by omega
  have hwk : IntKind.i64.wrap (k : Int) = (k : Int) := by rw [IntWalk.i64_in _ (by omega)]
  have htn' : (R 0).n ≤ 4194304 := by omega
  have hkn' : (R 1).n ≤ 4194304 := by omega
  have hln' : (R 5).n ≤ 16 := by omega
  clear h hc hg3 hg4 hon hcn e3 e4 hk0 htn hkn hln
  obtain ⟨tsx, htsx⟩ : ∃ x, ts ++ (if c = 0 then [Tk.cls (.lit 97) 0] else []) = x := ⟨_, rfl⟩
  obtain ⟨txx, htxx⟩ : ∃ x, txt ++ (if c = 0 then [(97 : Int)] else []) = x := ⟨_, rfl⟩
  have hts1 : tsx.length ≤ 4194310 := by rw [← htsx, List.length_append]; split <;> simp <;> omega
  have htx1 : txx.length ≤ 4194310 := by rw [← htxx, List.length_append]; split <;> simp <;> omega
  have HTS : Hid (c = 0 → ts ++ [Tk.cls (.lit 97) 0] = tsx ∧ txt ++ [(97 : Int)] = txx) := Lib.hid (fun h => by rw [if_pos h] at htsx htxx; exact ⟨htsx, htxx⟩)
  have HTN : Hid (c ≠ 0 → ts = tsx ∧ txt = txx) := Lib.hid (fun h => by rw [if_neg h, List.append_nil] at htsx htxx; exact ⟨htsx, htxx⟩)
  rw [htsx, htxx]
  clear htsx htxx
  go_enter Tryf.func14, Tryf.ntmps14
  go_upto_region 1 with (fail)
  have HMID : Hid (Mid w0 w B r p d an tl nc ts txt ps (op ++ [n]) (ct ++ [c]) cl R) := Lib.hid ⟨R, H.out, HC.out, rfl, rfl⟩
  go_upto_if 17 with (fail)
  go_cut [] (fun wc => Mid w0 wc B r p d an tl nc tsx txx ps (op ++ [n]) (ct ++ [c]) cl R)
  case first =>
    by_cases hc0 : c = 0
    · subst hc0
      have hcut := HMID.out
      obtain ⟨R1, hd1, hc1, hr3, hr4⟩ := hcut
      have H1 := Lib.hid hd1
      have HCC := Lib.hid hc1
      have HR34 : Hid (R1 3 = R 3 ∧ R1 4 = R 4) := Lib.hid ⟨hr3, hr4⟩
      have htn2 : (R1 0).n ≤ 4194400 := by rw [hc1.tn]; first | omega | (simp; omega)
      have hkn2 : (R1 1).n ≤ 4194400 := by rw [hd1.tn]; first | omega | (simp; omega)
      have hln2 : (R1 5).n ≤ 16 := by rw [hc1.ln]; exact hcl
      clear hd1 hc1 hr3 hr4
      have ad0 := blk_cell H1.out.dblk 0 _ rfl
      have afd0 := blk_free H1.out.dblk 0
      have ap1 := blk_cell H1.out.pblk 1 _ rfl
      have afp1 := blk_free H1.out.pblk 1
      have n0 : ∀ o, (w.alloc o).cell? ⟨d, 0, none⟩ = some (.pointer (some ⟨p, 0, none⟩)) := fun o => blk_cell (blk_alloc H1.out.dblk o) 0 _ rfl
      have n1 : ∀ o, (w.alloc o).cell? ⟨p, 1, none⟩ = some (.slice (R1 1).ao (R1 1).n (R1 1).cap) := fun o => blk_cell (blk_alloc H1.out.pblk o) 1 _ rfl
      go_upto_region 2 with (fail)
      go_cut [] (fun wc => Mid w0 wc B r p d an tl nc (ts ++ [.cls (.lit 97) 0]) txt ps (op ++ [n]) (ct ++ [0]) cl R)
      case first =>
        refine wp_mono (wp_code (c' := closeRg 2) (by kernel_rfl) (close_rg2 H1.out HCC.out (by omega))) ?_
        rintro e a' w' hq
        cases e with
        | normal =>
          obtain ⟨⟨g18, g19, g20, g21, g22, g23, g24, g25, g26, g27, g28, g29, g30, g31, g32, g33, g34, rfl⟩, R2, h1, h2, h3, h4⟩ := hq
          have HF := Lib.hid (And.intro h1 (And.intro h2 (And.intro (h3.trans HR34.out.1) (h4.trans HR34.out.2))))
          clear h1 h2 h3 h4
          first
            | go_meet
            | (go_wp2_with fail; go_meet)
          case rel => exact ⟨R2, HF.out⟩
        | goto l => exact hq.elim
        | exit id => exact hq.elim
        | ret => exact hq.elim
        | panic ch => exact hq.elim
        | outgrown => exact hq.elim
      clear n0 n1 ad0 afd0 ap1 afp1
      obtain ⟨R1, hd1, hc1, hr3, hr4⟩ := hcut
      have H1 := Lib.hid hd1
      have HCC := Lib.hid hc1
      have HR34 : Hid (R1 3 = R 3 ∧ R1 4 = R 4) := Lib.hid ⟨hr3, hr4⟩
      have htn2 : (R1 0).n ≤ 4194400 := by rw [hc1.tn]; first | omega | (simp; omega)
      have hkn2 : (R1 1).n ≤ 4194400 := by rw [hd1.tn]; first | omega | (simp; omega)
      have hln2 : (R1 5).n ≤ 16 := by rw [hc1.ln]; exact hcl
      clear hd1 hc1 hr3 hr4
      have ad0 := blk_cell H1.out.dblk 0 _ rfl
      have afd0 := blk_free H1.out.dblk 0
      have ap0 := blk_cell H1.out.pblk 0 _ rfl
      have afp0 := blk_free H1.out.pblk 0
      have n0 : ∀ o, (wc.alloc o).cell? ⟨d, 0, none⟩ = some (.pointer (some ⟨p, 0, none⟩)) := fun o => blk_cell (blk_alloc H1.out.dblk o) 0 _ rfl
      have n1 : ∀ o, (wc.alloc o).cell? ⟨p, 0, none⟩ = some (.slice (R1 0).ao (R1 0).n (R1 0).cap) := fun o => blk_cell (blk_alloc H1.out.pblk o) 0 _ rfl
      go_upto_region 3 with (fail)
      go_cut [] (fun wc => Mid w0 wc B r p d an tl nc (ts ++ [.cls (.lit 97) 0]) (txt ++ [97]) ps (op ++ [n]) (ct ++ [0]) cl R)
      case first =>
        refine wp_mono (wp_code (c' := closeRg 3) (by kernel_rfl) (close_rg3 H1.out HCC.out (by omega))) ?_
        rintro e a' w' hq
        cases e with
        | normal =>
          obtain ⟨⟨g35, g36, g37, g38, g39, g40, g41, g42, g43, g44, g45, g46, g47, g48, g49, rfl⟩, R2, h1, h2, h3, h4⟩ := hq
          have HF := Lib.hid (And.intro h1 (And.intro h2 (And.intro (h3.trans HR34.out.1) (h4.trans HR34.out.2))))
          clear h1 h2 h3 h4
          first
            | go_meet
            | (go_wp2_with fail; go_meet)
          case rel => exact ⟨R2, HF.out⟩
        | goto l => exact hq.elim
        | exit id => exact hq.elim
        | ret => exact hq.elim
        | panic ch => exact hq.elim
        | outgrown => exact hq.elim
      clear n0 n1 ad0 afd0 ap0 afp0
      obtain ⟨R1, hd1, hc1, hr3, hr4⟩ := hcut
      have H1 := Lib.hid hd1
      have HCC := Lib.hid hc1
      have HR34 : Hid (R1 3 = R 3 ∧ R1 4 = R 4) := Lib.hid ⟨hr3, hr4⟩
      have htn2 : (R1 0).n ≤ 4194400 := by rw [hc1.tn]; first | omega | (simp; omega)
      have hkn2 : (R1 1).n ≤ 4194400 := by rw [hd1.tn]; first | omega | (simp; omega)
      have hln2 : (R1 5).n ≤ 16 := by rw [hc1.ln]; exact hcl
      clear hd1 hc1 hr3 hr4
      go_wp2_with fail
      go_meet
      case rel => rw [← (HTS.out (by first | rfl | trivial)).1, ← (HTS.out (by first | rfl | trivial)).2]; exact ⟨R1, H1.out, HCC.out, HR34.out⟩
    · have tc : ((c : Int) == 0) = false := beq_eq_false_iff_ne.2 (by omega)
      go_wp2_with fail
      go_meet
      case rel => rw [← (HTN.out hc0).1, ← (HTN.out hc0).2]; exact HMID.out
  clear k3 k4 kd0 kd1 kd2 HMID
  obtain ⟨R1, hd1, hc1, hr3, hr4⟩ := hcut
  have H1 := Lib.hid hd1
  have HCC := Lib.hid hc1
  have HR34 : Hid (R1 3 = R 3 ∧ R1 4 = R 4) := Lib.hid ⟨hr3, hr4⟩
  have htn2 : (R1 0).n ≤ 4194400 := by rw [hc1.tn]; first | omega | (simp; omega)
  have hkn2 : (R1 1).n ≤ 4194400 := by rw [hd1.tn]; first | omega | (simp; omega)
  have hln2 : (R1 5).n ≤ 16 := by rw [hc1.ln]; exact hcl
  clear hd1 hc1 hr3 hr4
  have kd1 : wc.cell? ⟨d, 1, none⟩ = some (.slice (some ⟨g3, 0, none⟩) (k + 1) (R 3).cap) := by
    have h := blk_cell H1.out.dblk 1 _ rfl
    rw [HR34.out.1, HG3.out, E3.out, HK.out] at h
    exact h
  have k3 : wc.cell? ⟨g3, k, none⟩ = some (.int .i64 (n : Int)) := by
    have h3 := H1.out.own3
    have hx := HCC.out.ox
    rw [HR34.out.1] at h3 hx
    rw [HG3.out] at h3
    refine (h3.cellAt k (by rw [E3.out, HK.out]; omega)).trans ?_
    rw [hx, ints_get, ← HK.out]
    simp
  go_upto_region 5 with (fail)
  clear kd1 k3
  have ad0 := blk_cell H1.out.dblk 0 _ rfl
  have afd0 := blk_free H1.out.dblk 0
  have ap0 := blk_cell H1.out.pblk 0 _ rfl
  have afp0 := blk_free H1.out.pblk 0
  have n0 : ∀ o, (wc.alloc o).cell? ⟨d, 0, none⟩ = some (.pointer (some ⟨p, 0, none⟩)) := fun o => blk_cell (blk_alloc H1.out.dblk o) 0 _ rfl
  have n1 : ∀ o, (wc.alloc o).cell? ⟨p, 0, none⟩ = some (.slice (R1 0).ao (R1 0).n (R1 0).cap) := fun o => blk_cell (blk_alloc H1.out.pblk o) 0 _ rfl
  go_upto_region 5 with (fail)
  go_cut [] (fun wc => Mid w0 wc B r p d an tl nc tsx (txx ++ [41]) ps (op ++ [n]) (ct ++ [c]) cl R)
  case first =>
    refine wp_mono (wp_code (c' := closeRg 5) (by kernel_rfl) (close_rg5 H1.out HCC.out (by omega))) ?_
    rintro e a' w' hq
    cases e with
    | normal =>
      obtain ⟨⟨g57, g58, g59, g60, g61, g62, g63, g64, g65, g66, g67, g68, g69, g70, g71, rfl⟩, R2, h1, h2, h3, h4⟩ := hq
      have HF := Lib.hid (And.intro h1 (And.intro h2 (And.intro (h3.trans HR34.out.1) (h4.trans HR34.out.2))))
      clear h1 h2 h3 h4
      first
        | go_meet
        | (go_wp2_with fail; go_meet)
      case rel => exact ⟨R2, HF.out⟩
    | goto l => exact hq.elim
    | exit id => exact hq.elim
    | ret => exact hq.elim
    | panic ch => exact hq.elim
    | outgrown => exact hq.elim
  clear n0 n1 ad0 afd0 ap0 afp0
  obtain ⟨R1, hd1, hc1, hr3, hr4⟩ := hcut
  have H1 := Lib.hid hd1
  have HCC := Lib.hid hc1
  have HR34 : Hid (R1 3 = R 3 ∧ R1 4 = R 4) := Lib.hid ⟨hr3, hr4⟩
  have htn2 : (R1 0).n ≤ 4194400 := by rw [hc1.tn]; first | omega | (simp; omega)
  have hkn2 : (R1 1).n ≤ 4194400 := by rw [hd1.tn]; first | omega | (simp; omega)
  have hln2 : (R1 5).n ≤ 16 := by rw [hc1.ln]; exact hcl
  clear hd1 hc1 hr3 hr4
  have ad0 := blk_cell H1.out.dblk 0 _ rfl
  have afd0 := blk_free H1.out.dblk 0
  have ap1 := blk_cell H1.out.pblk 1 _ rfl
  have afp1 := blk_free H1.out.pblk 1
  have n0 : ∀ o, (wc.alloc o).cell? ⟨d, 0, none⟩ = some (.pointer (some ⟨p, 0, none⟩)) := fun o => blk_cell (blk_alloc H1.out.dblk o) 0 _ rfl
  have n1 : ∀ o, (wc.alloc o).cell? ⟨p, 1, none⟩ = some (.slice (R1 1).ao (R1 1).n (R1 1).cap) := fun o => blk_cell (blk_alloc H1.out.pblk o) 1 _ rfl
  go_upto_region 6 with (fail)
  go_cut [] (fun wc => Mid w0 wc B r p d an tl nc (tsx ++ [.clo n]) (txx ++ [41]) ps (op ++ [n]) (ct ++ [c]) cl R)
  case first =>
    refine wp_mono (wp_code (c' := closeRg 6) (by kernel_rfl) (close_rg6 H1.out HCC.out (by omega))) ?_
    rintro e a' w' hq
    cases e with
    | normal =>
      obtain ⟨⟨g72, g73, g74, g75, g76, g77, g78, g79, g80, g81, g82, g83, g84, g85, g86, g87, g88, rfl⟩, R2, h1, h2, h3, h4⟩ := hq
      have HF := Lib.hid (And.intro h1 (And.intro h2 (And.intro (h3.trans HR34.out.1) (h4.trans HR34.out.2))))
      clear h1 h2 h3 h4
      first
        | go_meet
        | (go_wp2_with fail; go_meet)
      case rel => exact ⟨R2, HF.out⟩
    | goto l => exact hq.elim
    | exit id => exact hq.elim
    | ret => exact hq.elim
    | panic ch => exact hq.elim
    | outgrown => exact hq.elim
  clear n0 n1 ad0 afd0 ap1 afp1
  obtain ⟨R1, hd1, hc1, hr3, hr4⟩ := hcut
  have H1 := Lib.hid hd1
  have HCC := Lib.hid hc1
  have HR34 : Hid (R1 3 = R 3 ∧ R1 4 = R 4) := Lib.hid ⟨hr3, hr4⟩
  have htn2 : (R1 0).n ≤ 4194400 := by rw [hc1.tn]; first | omega | (simp; omega)
  have hkn2 : (R1 1).n ≤ 4194400 := by rw [hd1.tn]; first | omega | (simp; omega)
  have hln2 : (R1 5).n ≤ 16 := by rw [hc1.ln]; exact hcl
  clear hd1 hc1 hr3 hr4
  have kd3 := blk_cell H1.out.dblk 3 _ rfl
  have kf3 := blk_free H1.out.dblk 3
  have hw1 := H1.out.Bw
  go_upto_region 8 with (at_builtin; go_loud (refine wpList_push _ rfl (.tmp 93) (.tmp 95) 37 rfl B 3 ii (.int .i64 0) 1 8 Tryf.underlying37 hii hi0 hi1 hi2 rfl (by decide) _ _ _ _ rfl (H1.out.own5.alloc _) ⟨wc.heap.size, 0, none⟩ 1 1 [.int .i64 (n : Int)] rfl rfl (news_any (by simp)) (by simp [Value.oneCell']) (by decide) (by unfold maxLen; omega) (by omega) (Nat.le_trans H1.out.Bw (by simp)) ?_; intro g1 c1 w8 hown hgrow hwhere; have HO := Lib.hid hown; have HGw := Lib.hid hgrow; have HWh := Lib.hid hwhere; have hk8 := (H1.out.alloc _).dGrown (i := 5) HGw.out; have kc8 := blk_cell hk8 3 _ rfl; have fc8 := blk_free hk8 3; clear hown hgrow hwhere hk8))
  have H2 := Lib.hid ((H1.out.alloc _).push5 HO.out HGw.out HWh.out)
  have HC2 := Lib.hid (HCC.out.push5 (some ⟨g1, 0, none⟩) c1 n)
  generalize hw9 : World.setCell w8 _ _ = w9 at *
  clear HO HGw HWh kc8 fc8 hw9 kd3 kf3
  have hcap3 : k + 1 ≤ (R 3).cap := by have := cap_le H2.out.own3; rw [show (upd R1 5 ⟨some ⟨g1, 0, none⟩, c1, (R1 5).n + 1, (R1 5).xs ++ [.int .i64 (n : Int)]⟩) 3 = R1 3 from rfl, HR34.out.1, E3.out, HK.out] at this; exact this
  have hcap4 : k + 1 ≤ (R 4).cap := by have := cap_le H2.out.own4; rw [show (upd R1 5 ⟨some ⟨g1, 0, none⟩, c1, (R1 5).n + 1, (R1 5).xs ++ [.int .i64 (n : Int)]⟩) 4 = R1 4 from rfl, HR34.out.2, E4.out, HK.out] at this; exact this
  have kd1 : w9.cell? ⟨d, 1, none⟩ = some (.slice (some ⟨g3, 0, none⟩) (k + 1) (R 3).cap) := by
    have h := blk_cell H2.out.dblk 1 _ rfl
    rw [show (upd R1 5 ⟨some ⟨g1, 0, none⟩, c1, (R1 5).n + 1, (R1 5).xs ++ [.int .i64 (n : Int)]⟩) 3 = R1 3 from rfl, HR34.out.1, HG3.out, E3.out, HK.out] at h
    exact h
  have kf1 := blk_free H2.out.dblk 1
  have hs1 : (k : Int) ≤ ((R 3).cap : Int) := by omega
  have hs2 : (k : Int) ≤ ((R 4).cap : Int) := by omega
  have hk3 : k ≤ ((upd R1 5 ⟨some ⟨g1, 0, none⟩, c1, (R1 5).n + 1, (R1 5).xs ++ [.int .i64 (n : Int)]⟩) 3).n := by
    show k ≤ (R1 3).n
    rw [HR34.out.1, E3.out, HK.out]; omega
  have hg3' : ((upd R1 5 ⟨some ⟨g1, 0, none⟩, c1, (R1 5).n + 1, (R1 5).xs ++ [.int .i64 (n : Int)]⟩) 3).ao = some ⟨g3, 0, none⟩ := by
    show (R1 3).ao = _
    rw [HR34.out.1]; exact HG3.out
  have h3c := H2.out.cut3 hg3' hk3
  have h3k := HC2.out.cut3 HK.out
  rw [show ((upd R1 5 ⟨some ⟨g1, 0, none⟩, c1, (R1 5).n + 1, (R1 5).xs ++ [.int .i64 (n : Int)]⟩) 3).cap = (R 3).cap from by show (R1 3).cap = _; rw [HR34.out.1], hg3'] at h3c h3k
  have H3 := Lib.hid h3c
  have HC3 := Lib.hid h3k
  clear h3c h3k hk3 hg3'
  go_upto_region 9 with (fail)
  generalize hw10 : World.setCell w9 _ _ = w10 at *
  clear hw10 kd1 kf1
  have hm3 : ∃ R3, DecS w0 w10 B r p d an tl nc R3 (tsx ++ [.clo n]) ∧ Cont R3 (txx ++ [41]) ps op (ct ++ [c]) (cl ++ [n]) ∧ R3 4 = R 4 := ⟨_, H3.out, HC3.out, HR34.out.2⟩
  clear H3 HC3 HC2
  obtain ⟨R3, hd3, hc3, hr4⟩ := hm3
  have kd2 : w10.cell? ⟨d, 2, none⟩ = some (.slice (some ⟨g4, 0, none⟩) (k + 1) (R 4).cap) := by
    have h := blk_cell hd3.dblk 2 _ rfl
    rw [hr4, HG4.out, E4.out, HK.out] at h
    exact h
  have kf2 := blk_free hd3.dblk 2
  have h4c := hd3.cut4 (g := g4) (k := k) (by rw [hr4]; exact HG4.out) (by rw [hr4, E4.out, HK.out]; omega)
  have h4k := hc3.cut4 (k := k) (by rw [hct]; exact HK.out)
  rw [show (R3 4).cap = (R 4).cap from by rw [hr4], show (R3 4).ao = some ⟨g4, 0, none⟩ from by rw [hr4]; exact HG4.out] at h4c h4k
  have H4 := Lib.hid h4c
  have HC4 := Lib.hid h4k
  clear h4c h4k hd3 hc3 hr4
  go_wp2_with fail
  go_end0
  exact ⟨rfl, _, H4.out, HC4.out⟩


/-- The rest of a code from the region n on. -/
def tailAt (n : Nat) : Code → Option Code
  | .seq (.region k ops b) c => if k = n then some (.seq (.region k ops b) c) else tailAt n c
  | .seq a b => match tailAt n a with
    | some c => some c
    | none => tailAt n b
  | .block _ c => tailAt n c
  | .scope c => tailAt n c
  | .loop c => tailAt n c
  | .cond _ a b => match tailAt n a with
    | some c => some c
    | none => tailAt n b
  | _ => none
noncomputable def decBody : Code := ((Tryf.f5.body.bind firstLoop).getD .skip)
noncomputable def decTail : Code := (tailAt 33 decBody).getD .skip
noncomputable def decTail2 : Code := (tailAt 54 decBody).getD .skip
structure DFr (r p d : Nat) (a : Act) : Prop where
  df : a.defers = []
  sz : a.tmps.size = 408
  s5 : a.tmps[5]? = some (.pointer (some ⟨r, 0, none⟩))
  s6 : a.tmps[6]? = some (.pointer (some ⟨p, 0, none⟩))
  s7 : a.tmps[7]? = some (.pointer (some ⟨d, 0, none⟩))
/-- What holds at the loop's head. -/
def DRel (w0 : World) (B r p d : Nat) (an tl : Bool) (wr : World) (it : Nat) (a : Act) : Prop :=
  ∃ (nc : Nat) (R : Fin 6 → Rw) (ts : List Tk) (txt : List Int) (ps : List Bool) (op ct cl : List Nat) (ub ob : Nat), a.tmps[9]? = some (.int .i64 (ub : Int)) ∧ a.tmps[10]? = some (.int .i64 (ob : Int)) ∧ a.tmps[11]? = some (.int .i64 (it : Int)) ∧
    DecS w0 wr B r p d an tl nc R ts ∧ Cont R txt ps op ct cl ∧ DWf an nc ts txt ps op ct cl ub it ∧ it ≤ 4096 ∧ ob ≤ 2
theorem dint_is {a b : Int} (h : a = b) : some (Value.int .i64 a) = some (.int .i64 b) := by rw [h]
theorem dact_is {a : Act} (h : a.defers = []) : a = { tmps := a.tmps, defers := [] } := by cases a; simp only [Act.mk.injEq, true_and]; exact h
theorem drel_mk {w0 wr : World} {B r p d nc ub ob it : Nat} {an tl : Bool} {R : Fin 6 → Rw} {ts : List Tk} {txt : List Int} {ps : List Bool} {op ct cl : List Nat} {a : Act} (h9 : a.tmps[9]? = some (.int .i64 (ub : Int))) (h10 : a.tmps[10]? = some (.int .i64 (ob : Int))) (h11 : a.tmps[11]? = some (.int .i64 (it : Int)))
    (hS : DecS w0 wr B r p d an tl nc R ts) (hC : Cont R txt ps op ct cl) (hW : DWf an nc ts txt ps op ct cl ub it) (hi : it ≤ 4096) (ho : ob ≤ 2) : DRel w0 B r p d an tl wr it a := ⟨nc, R, ts, txt, ps, op, ct, cl, ub, ob, h9, h10, h11, hS, hC, hW, hi, ho⟩
theorem darr_range (xs : Array Value) (n : Nat) (h : xs.size = n) (g : Nat → Value) (hg : ∀ k, k < n → xs[k]? = some (g k)) : xs = ((List.range n).map g).toArray := by
  apply Array.ext
  · simp [h]
  · intro i h1 h2
    have := hg i (by omega)
    rw [Array.getElem?_eq_getElem h1] at this
    simpa using this
set_option maxRecDepth 1000000 in
theorem dlit_range (g : Nat → Value) : ((List.range 408).map g).toArray = #[g 0, g 1, g 2, g 3, g 4, g 5, g 6, g 7, g 8, g 9, g 10, g 11, g 12, g 13, g 14, g 15, g 16, g 17, g 18, g 19, g 20, g 21, g 22, g 23, g 24, g 25, g 26, g 27, g 28, g 29, g 30, g 31, g 32, g 33, g 34, g 35, g 36, g 37, g 38, g 39, g 40, g 41, g 42, g 43, g 44, g 45, g 46, g 47, g 48, g 49, g 50, g 51, g 52, g 53, g 54, g 55, g 56, g 57, g 58, g 59, g 60, g 61, g 62, g 63, g 64, g 65, g 66, g 67, g 68, g 69, g 70, g 71, g 72, g 73, g 74, g 75, g 76, g 77, g 78, g 79, g 80, g 81, g 82, g 83, g 84, g 85, g 86, g 87, g 88, g 89, g 90, g 91, g 92, g 93, g 94, g 95, g 96, g 97, g 98, g 99, g 100, g 101, g 102, g 103, g 104, g 105, g 106, g 107, g 108, g 109, g 110, g 111, g 112, g 113, g 114, g 115, g 116, g 117, g 118, g 119, g 120, g 121, g 122, g 123, g 124, g 125, g 126, g 127, g 128, g 129, g 130, g 131, g 132, g 133, g 134, g 135, g 136, g 137, g 138, g 139, g 140, g 141, g 142, g 143, g 144, g 145, g 146, g 147, g 148, g 149, g 150, g 151, g 152, g 153, g 154, g 155, g 156, g 157, g 158, g 159, g 160, g 161, g 162, g 163, g 164, g 165, g 166, g 167, g 168, g 169, g 170, g 171, g 172, g 173, g 174, g 175, g 176, g 177, g 178, g 179, g 180, g 181, g 182, g 183, g 184, g 185, g 186, g 187, g 188, g 189, g 190, g 191, g 192, g 193, g 194, g 195, g 196, g 197, g 198, g 199, g 200, g 201, g 202, g 203, g 204, g 205, g 206, g 207, g 208, g 209, g 210, g 211, g 212, g 213, g 214, g 215, g 216, g 217, g 218, g 219, g 220, g 221, g 222, g 223, g 224, g 225, g 226, g 227, g 228, g 229, g 230, g 231, g 232, g 233, g 234, g 235, g 236, g 237, g 238, g 239, g 240, g 241, g 242, g 243, g 244, g 245, g 246, g 247, g 248, g 249, g 250, g 251, g 252, g 253, g 254, g 255, g 256, g 257, g 258, g 259, g 260, g 261, g 262, g 263, g 264, g 265, g 266, g 267, g 268, g 269, g 270, g 271, g 272, g 273, g 274, g 275, g 276, g 277, g 278, g 279, g 280, g 281, g 282, g 283, g 284, g 285, g 286, g 287, g 288, g 289, g 290, g 291, g 292, g 293, g 294, g 295, g 296, g 297, g 298, g 299, g 300, g 301, g 302, g 303, g 304, g 305, g 306, g 307, g 308, g 309, g 310, g 311, g 312, g 313, g 314, g 315, g 316, g 317, g 318, g 319, g 320, g 321, g 322, g 323, g 324, g 325, g 326, g 327, g 328, g 329, g 330, g 331, g 332, g 333, g 334, g 335, g 336, g 337, g 338, g 339, g 340, g 341, g 342, g 343, g 344, g 345, g 346, g 347, g 348, g 349, g 350, g 351, g 352, g 353, g 354, g 355, g 356, g 357, g 358, g 359, g 360, g 361, g 362, g 363, g 364, g 365, g 366, g 367, g 368, g 369, g 370, g 371, g 372, g 373, g 374, g 375, g 376, g 377, g 378, g 379, g 380, g 381, g 382, g 383, g 384, g 385, g 386, g 387, g 388, g 389, g 390, g 391, g 392, g 393, g 394, g 395, g 396, g 397, g 398, g 399, g 400, g 401, g 402, g 403, g 404, g 405, g 406, g 407] := by kernel_rfl
set_option maxRecDepth 1000000 in
theorem dframe_lit (xs : Array Value) (h : xs.size = 408) {v5 v6 v7 v9 v10 v11 : Value} (h5 : xs[5]? = some v5) (h6 : xs[6]? = some v6) (h7 : xs[7]? = some v7) (h9 : xs[9]? = some v9) (h10 : xs[10]? = some v10) (h11 : xs[11]? = some v11) : ∃ f : Nat → Value, xs = #[f 0, f 1, f 2, f 3, f 4, v5, v6, v7, f 8, v9, v10, v11, f 12, f 13, f 14, f 15, f 16, f 17, f 18, f 19, f 20, f 21, f 22, f 23, f 24, f 25, f 26, f 27, f 28, f 29, f 30, f 31, f 32, f 33, f 34, f 35, f 36, f 37, f 38, f 39, f 40, f 41, f 42, f 43, f 44, f 45, f 46, f 47, f 48, f 49, f 50, f 51, f 52, f 53, f 54, f 55, f 56, f 57, f 58, f 59, f 60, f 61, f 62, f 63, f 64, f 65, f 66, f 67, f 68, f 69, f 70, f 71, f 72, f 73, f 74, f 75, f 76, f 77, f 78, f 79, f 80, f 81, f 82, f 83, f 84, f 85, f 86, f 87, f 88, f 89, f 90, f 91, f 92, f 93, f 94, f 95, f 96, f 97, f 98, f 99, f 100, f 101, f 102, f 103, f 104, f 105, f 106, f 107, f 108, f 109, f 110, f 111, f 112, f 113, f 114, f 115, f 116, f 117, f 118, f 119, f 120, f 121, f 122, f 123, f 124, f 125, f 126, f 127, f 128, f 129, f 130, f 131, f 132, f 133, f 134, f 135, f 136, f 137, f 138, f 139, f 140, f 141, f 142, f 143, f 144, f 145, f 146, f 147, f 148, f 149, f 150, f 151, f 152, f 153, f 154, f 155, f 156, f 157, f 158, f 159, f 160, f 161, f 162, f 163, f 164, f 165, f 166, f 167, f 168, f 169, f 170, f 171, f 172, f 173, f 174, f 175, f 176, f 177, f 178, f 179, f 180, f 181, f 182, f 183, f 184, f 185, f 186, f 187, f 188, f 189, f 190, f 191, f 192, f 193, f 194, f 195, f 196, f 197, f 198, f 199, f 200, f 201, f 202, f 203, f 204, f 205, f 206, f 207, f 208, f 209, f 210, f 211, f 212, f 213, f 214, f 215, f 216, f 217, f 218, f 219, f 220, f 221, f 222, f 223, f 224, f 225, f 226, f 227, f 228, f 229, f 230, f 231, f 232, f 233, f 234, f 235, f 236, f 237, f 238, f 239, f 240, f 241, f 242, f 243, f 244, f 245, f 246, f 247, f 248, f 249, f 250, f 251, f 252, f 253, f 254, f 255, f 256, f 257, f 258, f 259, f 260, f 261, f 262, f 263, f 264, f 265, f 266, f 267, f 268, f 269, f 270, f 271, f 272, f 273, f 274, f 275, f 276, f 277, f 278, f 279, f 280, f 281, f 282, f 283, f 284, f 285, f 286, f 287, f 288, f 289, f 290, f 291, f 292, f 293, f 294, f 295, f 296, f 297, f 298, f 299, f 300, f 301, f 302, f 303, f 304, f 305, f 306, f 307, f 308, f 309, f 310, f 311, f 312, f 313, f 314, f 315, f 316, f 317, f 318, f 319, f 320, f 321, f 322, f 323, f 324, f 325, f 326, f 327, f 328, f 329, f 330, f 331, f 332, f 333, f 334, f 335, f 336, f 337, f 338, f 339, f 340, f 341, f 342, f 343, f 344, f 345, f 346, f 347, f 348, f 349, f 350, f 351, f 352, f 353, f 354, f 355, f 356, f 357, f 358, f 359, f 360, f 361, f 362, f 363, f 364, f 365, f 366, f 367, f 368, f 369, f 370, f 371, f 372, f 373, f 374, f 375, f 376, f 377, f 378, f 379, f 380, f 381, f 382, f 383, f 384, f 385, f 386, f 387, f 388, f 389, f 390, f 391, f 392, f 393, f 394, f 395, f 396, f 397, f 398, f 399, f 400, f 401, f 402, f 403, f 404, f 405, f 406, f 407] := by
  have hf : ∀ k, k < 408 → xs[k]? = some (xs.getD k .nilIface) := fun k hk => by
    rw [Array.getD_eq_getD_getElem?, Array.getElem?_eq_getElem (by omega)]; rfl
  refine ⟨fun k => xs.getD k .nilIface, ?_⟩
  have e := (darr_range xs 408 h _ hf).trans (dlit_range _)
  have e5 : xs.getD 5 .nilIface = v5 := by rw [Array.getD_eq_getD_getElem?, h5]; rfl
  have e6 : xs.getD 6 .nilIface = v6 := by rw [Array.getD_eq_getD_getElem?, h6]; rfl
  have e7 : xs.getD 7 .nilIface = v7 := by rw [Array.getD_eq_getD_getElem?, h7]; rfl
  have e9 : xs.getD 9 .nilIface = v9 := by rw [Array.getD_eq_getD_getElem?, h9]; rfl
  have e10 : xs.getD 10 .nilIface = v10 := by rw [Array.getD_eq_getD_getElem?, h10]; rfl
  have e11 : xs.getD 11 .nilIface = v11 := by rw [Array.getD_eq_getD_getElem?, h11]; rfl
  subst e5 e6 e7 e9 e10 e11
  exact e
theorem Cont.push0x {R : Fin 6 → Rw} {txt : List Int} {ps : List Bool} {op ct cl : List Nat} (h : Cont R txt ps op ct cl) (a : Option Addr) (c k : Nat) (l : List Int) (hk : l.length = k) (xs : List Value) (hx : xs = (R 0).xs ++ u8s l) : Cont (upd R 0 ⟨a, c, (R 0).n + k, xs⟩) (txt ++ l) ps op ct cl := by
  subst hx
  exact h.push0 a c k l hk
theorem idx8 (k : Nat) (hk : k < 4) (W : World) : (Instr.index 9 (.string ⟨#[40, 41, 97, 98, 97, 97, 91, 93]⟩) (.int .i64 (2 * (k : Int)))).run Tryf.prog W = .ok (.int .u8 (brcs4.getD k (0, 0)).1) W ∧
    (Instr.index 9 (.string ⟨#[40, 41, 97, 98, 97, 97, 91, 93]⟩) (.int .i64 (2 * (k : Int) + 1))).run Tryf.prog W = .ok (.int .u8 (brcs4.getD k (0, 0)).2) W := by
  have h : k = 0 ∨ k = 1 ∨ k = 2 ∨ k = 3 := by omega
  rcases h with rfl | rfl | rfl | rfl
  all_goals
    rw [run_index_string W _ _ _ _ Tryf.underlying9, run_index_string W _ _ _ _ Tryf.underlying9]
    exact ⟨rfl, rfl⟩
theorem four_of {l : List Value} (h : l.length = 4) : ∃ a b c d, l = [a, b, c, d] := by
  match l, h with
  | [a, b, c, d], _ => exact ⟨a, b, c, d, rfl⟩
theorem ck_four {w : World} {B : Nat} {c : CK} {xs : List Value} (h : CkAt w B c xs) : ∃ (a b : Int) (nb : Bool) (ao : Option Addr) (n cap : Nat), xs = [.int .i64 a, .int .i64 b, .bool nb, .slice ao n cap] := by
  cases h with
  | lit => exact ⟨_, _, _, _, _, _, rfl⟩
  | dot => exact ⟨_, _, _, _, _, _, rfl⟩
  | esc => exact ⟨_, _, _, _, _, _, rfl⟩
  | set h => exact ⟨_, _, _, _, _, _, rfl⟩
theorem wp_same {P : Program} {c c' : Code} {Q : Exit → Act → World → Prop} {a : Act} {w : World} (hc : c = c') (h : c'.wp P Q a w) : c.wp P Q a w := hc ▸ h
theorem ck_base {w : World} {B B' : Nat} {c : CK} {xs : List Value} (h : CkAt w B c xs) (hB : B' ≤ B) : CkAt w B' c xs := by
  cases h with
  | lit => exact .lit
  | dot => exact .dot
  | esc => exact .esc
  | set h => exact .set (owns_base h hB)
theorem ctxt_pos (c : CK) : 0 < c.txt.length := by cases c <;> simp [CK.txt]
theorem ctxt_le {c : CK} (h : c.ok) : c.txt.length ≤ 15 := by
  cases c with
  | lit => simp [CK.txt]
  | dot => simp [CK.txt]
  | esc => simp [CK.txt]
  | set neg l =>
    have h1 := si_len l
    have h2 := h.2.1
    have h3 : (if neg then [(94 : Int)] else []).length ≤ 1 := by cases neg <;> simp
    simp only [CK.txt, List.length_append, List.length_cons, List.length_nil]
    omega
theorem DecS.push0_keep {w0 w w' : World} {B r p d nc : Nat} {an tl : Bool} {R : Fin 6 → Rw} {ts : List Tk} (h : DecS w0 w B r p d an tl nc R ts) (hg : w.grownBy w' (blkOf (R 0).ao)) (v : Value) {x : Nat} {c : Array Value} {T : TypeId} {q : Nat × Nat} (hx : w.heap[x]? = some (Obj.cells c T q)) (h1 : 5 ≠ T) (h2 : T ≠ 35) :
    (w'.setCell ⟨p, 0, none⟩ v).heap[x]? = w.heap[x]? := by
  have hne : x ≠ p := type_ne hx h.pblk h2
  rw [Below.heap_setCell w' ⟨p, 0, none⟩ v x hne]
  exact hg.block x (blk_lt hx) (fun e => by
    obtain ⟨c', hc'⟩ := own_type h.own0 x e.symm
    exact type_ne hc' hx h1 rfl)
theorem DecS.below {w0 w w' : World} {B r p d nc : Nat} {an tl : Bool} {R : Fin 6 → Rw} {ts : List Tk} (h : DecS w0 w B r p d an tl nc R ts) (hb : Below w.heap.size w w') : DecS w0 w' B r p d an tl nc R ts := by
  obtain ⟨cs, hr⟩ := h.rblk
  exact h.kept (hb.block p (blk_lt h.pblk)) (hb.block d (blk_lt h.dblk)) (hb.block r (blk_lt hr)) (fun i g hg => hb.block g (owns_lt (h.own i) g hg).2) (fun g cs r _ h1 => (hb.block g (blk_lt h1)).trans h1) (h.bel.trans (hb.mono h.Bw))
theorem psOf_len (ts : List Tk) : (psOf ts).length ≤ ts.length := List.length_filterMap_le _ _
theorem DWf.psl {an : Bool} {nc ub it : Nat} {ts : List Tk} {txt : List Int} {ps : List Bool} {op ct cl : List Nat} (h : DWf an nc ts txt ps op ct cl ub it) : ps.length ≤ 1 + ts.length := by
  have := psOf_len ts
  rw [h.psE, List.length_cons]
  omega
/-- The posts of a stretch that goes on. -/
def NQ (K : Act → World → Prop) : Exit → Act → World → Prop
  | .normal, a, w => K a w
  | _, _, _ => False
set_option maxRecDepth 1000000 in
theorem dframe_litA (xs : Array Value) (h : xs.size = 408) {v5 v6 v7 v9 v10 v11 v13 v14 v15 : Value} (h5 : xs[5]? = some v5) (h6 : xs[6]? = some v6) (h7 : xs[7]? = some v7) (h9 : xs[9]? = some v9) (h10 : xs[10]? = some v10) (h11 : xs[11]? = some v11) (h13 : xs[13]? = some v13) (h14 : xs[14]? = some v14) (h15 : xs[15]? = some v15) : ∃ f : Nat → Value, xs = #[f 0, f 1, f 2, f 3, f 4, v5, v6, v7, f 8, v9, v10, v11, f 12, v13, v14, v15, f 16, f 17, f 18, f 19, f 20, f 21, f 22, f 23, f 24, f 25, f 26, f 27, f 28, f 29, f 30, f 31, f 32, f 33, f 34, f 35, f 36, f 37, f 38, f 39, f 40, f 41, f 42, f 43, f 44, f 45, f 46, f 47, f 48, f 49, f 50, f 51, f 52, f 53, f 54, f 55, f 56, f 57, f 58, f 59, f 60, f 61, f 62, f 63, f 64, f 65, f 66, f 67, f 68, f 69, f 70, f 71, f 72, f 73, f 74, f 75, f 76, f 77, f 78, f 79, f 80, f 81, f 82, f 83, f 84, f 85, f 86, f 87, f 88, f 89, f 90, f 91, f 92, f 93, f 94, f 95, f 96, f 97, f 98, f 99, f 100, f 101, f 102, f 103, f 104, f 105, f 106, f 107, f 108, f 109, f 110, f 111, f 112, f 113, f 114, f 115, f 116, f 117, f 118, f 119, f 120, f 121, f 122, f 123, f 124, f 125, f 126, f 127, f 128, f 129, f 130, f 131, f 132, f 133, f 134, f 135, f 136, f 137, f 138, f 139, f 140, f 141, f 142, f 143, f 144, f 145, f 146, f 147, f 148, f 149, f 150, f 151, f 152, f 153, f 154, f 155, f 156, f 157, f 158, f 159, f 160, f 161, f 162, f 163, f 164, f 165, f 166, f 167, f 168, f 169, f 170, f 171, f 172, f 173, f 174, f 175, f 176, f 177, f 178, f 179, f 180, f 181, f 182, f 183, f 184, f 185, f 186, f 187, f 188, f 189, f 190, f 191, f 192, f 193, f 194, f 195, f 196, f 197, f 198, f 199, f 200, f 201, f 202, f 203, f 204, f 205, f 206, f 207, f 208, f 209, f 210, f 211, f 212, f 213, f 214, f 215, f 216, f 217, f 218, f 219, f 220, f 221, f 222, f 223, f 224, f 225, f 226, f 227, f 228, f 229, f 230, f 231, f 232, f 233, f 234, f 235, f 236, f 237, f 238, f 239, f 240, f 241, f 242, f 243, f 244, f 245, f 246, f 247, f 248, f 249, f 250, f 251, f 252, f 253, f 254, f 255, f 256, f 257, f 258, f 259, f 260, f 261, f 262, f 263, f 264, f 265, f 266, f 267, f 268, f 269, f 270, f 271, f 272, f 273, f 274, f 275, f 276, f 277, f 278, f 279, f 280, f 281, f 282, f 283, f 284, f 285, f 286, f 287, f 288, f 289, f 290, f 291, f 292, f 293, f 294, f 295, f 296, f 297, f 298, f 299, f 300, f 301, f 302, f 303, f 304, f 305, f 306, f 307, f 308, f 309, f 310, f 311, f 312, f 313, f 314, f 315, f 316, f 317, f 318, f 319, f 320, f 321, f 322, f 323, f 324, f 325, f 326, f 327, f 328, f 329, f 330, f 331, f 332, f 333, f 334, f 335, f 336, f 337, f 338, f 339, f 340, f 341, f 342, f 343, f 344, f 345, f 346, f 347, f 348, f 349, f 350, f 351, f 352, f 353, f 354, f 355, f 356, f 357, f 358, f 359, f 360, f 361, f 362, f 363, f 364, f 365, f 366, f 367, f 368, f 369, f 370, f 371, f 372, f 373, f 374, f 375, f 376, f 377, f 378, f 379, f 380, f 381, f 382, f 383, f 384, f 385, f 386, f 387, f 388, f 389, f 390, f 391, f 392, f 393, f 394, f 395, f 396, f 397, f 398, f 399, f 400, f 401, f 402, f 403, f 404, f 405, f 406, f 407] := by
  have hf : ∀ k, k < 408 → xs[k]? = some (xs.getD k .nilIface) := fun k hk => by
    rw [Array.getD_eq_getD_getElem?, Array.getElem?_eq_getElem (by omega)]; rfl
  refine ⟨fun k => xs.getD k .nilIface, ?_⟩
  have e := (darr_range xs 408 h _ hf).trans (dlit_range _)
  have e5 : xs.getD 5 .nilIface = v5 := by rw [Array.getD_eq_getD_getElem?, h5]; rfl
  have e6 : xs.getD 6 .nilIface = v6 := by rw [Array.getD_eq_getD_getElem?, h6]; rfl
  have e7 : xs.getD 7 .nilIface = v7 := by rw [Array.getD_eq_getD_getElem?, h7]; rfl
  have e9 : xs.getD 9 .nilIface = v9 := by rw [Array.getD_eq_getD_getElem?, h9]; rfl
  have e10 : xs.getD 10 .nilIface = v10 := by rw [Array.getD_eq_getD_getElem?, h10]; rfl
  have e11 : xs.getD 11 .nilIface = v11 := by rw [Array.getD_eq_getD_getElem?, h11]; rfl
  have e13 : xs.getD 13 .nilIface = v13 := by rw [Array.getD_eq_getD_getElem?, h13]; rfl
  have e14 : xs.getD 14 .nilIface = v14 := by rw [Array.getD_eq_getD_getElem?, h14]; rfl
  have e15 : xs.getD 15 .nilIface = v15 := by rw [Array.getD_eq_getD_getElem?, h15]; rfl
  subst e5 e6 e7 e9 e10 e11 e13 e14 e15
  exact e
set_option maxRecDepth 1000000 in
theorem dframe_litB (xs : Array Value) (h : xs.size = 408) {v5 v6 v7 v9 v10 v11 v22 v23 v24 : Value} (h5 : xs[5]? = some v5) (h6 : xs[6]? = some v6) (h7 : xs[7]? = some v7) (h9 : xs[9]? = some v9) (h10 : xs[10]? = some v10) (h11 : xs[11]? = some v11) (h22 : xs[22]? = some v22) (h23 : xs[23]? = some v23) (h24 : xs[24]? = some v24) : ∃ f : Nat → Value, xs = #[f 0, f 1, f 2, f 3, f 4, v5, v6, v7, f 8, v9, v10, v11, f 12, f 13, f 14, f 15, f 16, f 17, f 18, f 19, f 20, f 21, v22, v23, v24, f 25, f 26, f 27, f 28, f 29, f 30, f 31, f 32, f 33, f 34, f 35, f 36, f 37, f 38, f 39, f 40, f 41, f 42, f 43, f 44, f 45, f 46, f 47, f 48, f 49, f 50, f 51, f 52, f 53, f 54, f 55, f 56, f 57, f 58, f 59, f 60, f 61, f 62, f 63, f 64, f 65, f 66, f 67, f 68, f 69, f 70, f 71, f 72, f 73, f 74, f 75, f 76, f 77, f 78, f 79, f 80, f 81, f 82, f 83, f 84, f 85, f 86, f 87, f 88, f 89, f 90, f 91, f 92, f 93, f 94, f 95, f 96, f 97, f 98, f 99, f 100, f 101, f 102, f 103, f 104, f 105, f 106, f 107, f 108, f 109, f 110, f 111, f 112, f 113, f 114, f 115, f 116, f 117, f 118, f 119, f 120, f 121, f 122, f 123, f 124, f 125, f 126, f 127, f 128, f 129, f 130, f 131, f 132, f 133, f 134, f 135, f 136, f 137, f 138, f 139, f 140, f 141, f 142, f 143, f 144, f 145, f 146, f 147, f 148, f 149, f 150, f 151, f 152, f 153, f 154, f 155, f 156, f 157, f 158, f 159, f 160, f 161, f 162, f 163, f 164, f 165, f 166, f 167, f 168, f 169, f 170, f 171, f 172, f 173, f 174, f 175, f 176, f 177, f 178, f 179, f 180, f 181, f 182, f 183, f 184, f 185, f 186, f 187, f 188, f 189, f 190, f 191, f 192, f 193, f 194, f 195, f 196, f 197, f 198, f 199, f 200, f 201, f 202, f 203, f 204, f 205, f 206, f 207, f 208, f 209, f 210, f 211, f 212, f 213, f 214, f 215, f 216, f 217, f 218, f 219, f 220, f 221, f 222, f 223, f 224, f 225, f 226, f 227, f 228, f 229, f 230, f 231, f 232, f 233, f 234, f 235, f 236, f 237, f 238, f 239, f 240, f 241, f 242, f 243, f 244, f 245, f 246, f 247, f 248, f 249, f 250, f 251, f 252, f 253, f 254, f 255, f 256, f 257, f 258, f 259, f 260, f 261, f 262, f 263, f 264, f 265, f 266, f 267, f 268, f 269, f 270, f 271, f 272, f 273, f 274, f 275, f 276, f 277, f 278, f 279, f 280, f 281, f 282, f 283, f 284, f 285, f 286, f 287, f 288, f 289, f 290, f 291, f 292, f 293, f 294, f 295, f 296, f 297, f 298, f 299, f 300, f 301, f 302, f 303, f 304, f 305, f 306, f 307, f 308, f 309, f 310, f 311, f 312, f 313, f 314, f 315, f 316, f 317, f 318, f 319, f 320, f 321, f 322, f 323, f 324, f 325, f 326, f 327, f 328, f 329, f 330, f 331, f 332, f 333, f 334, f 335, f 336, f 337, f 338, f 339, f 340, f 341, f 342, f 343, f 344, f 345, f 346, f 347, f 348, f 349, f 350, f 351, f 352, f 353, f 354, f 355, f 356, f 357, f 358, f 359, f 360, f 361, f 362, f 363, f 364, f 365, f 366, f 367, f 368, f 369, f 370, f 371, f 372, f 373, f 374, f 375, f 376, f 377, f 378, f 379, f 380, f 381, f 382, f 383, f 384, f 385, f 386, f 387, f 388, f 389, f 390, f 391, f 392, f 393, f 394, f 395, f 396, f 397, f 398, f 399, f 400, f 401, f 402, f 403, f 404, f 405, f 406, f 407] := by
  have hf : ∀ k, k < 408 → xs[k]? = some (xs.getD k .nilIface) := fun k hk => by
    rw [Array.getD_eq_getD_getElem?, Array.getElem?_eq_getElem (by omega)]; rfl
  refine ⟨fun k => xs.getD k .nilIface, ?_⟩
  have e := (darr_range xs 408 h _ hf).trans (dlit_range _)
  have e5 : xs.getD 5 .nilIface = v5 := by rw [Array.getD_eq_getD_getElem?, h5]; rfl
  have e6 : xs.getD 6 .nilIface = v6 := by rw [Array.getD_eq_getD_getElem?, h6]; rfl
  have e7 : xs.getD 7 .nilIface = v7 := by rw [Array.getD_eq_getD_getElem?, h7]; rfl
  have e9 : xs.getD 9 .nilIface = v9 := by rw [Array.getD_eq_getD_getElem?, h9]; rfl
  have e10 : xs.getD 10 .nilIface = v10 := by rw [Array.getD_eq_getD_getElem?, h10]; rfl
  have e11 : xs.getD 11 .nilIface = v11 := by rw [Array.getD_eq_getD_getElem?, h11]; rfl
  have e22 : xs.getD 22 .nilIface = v22 := by rw [Array.getD_eq_getD_getElem?, h22]; rfl
  have e23 : xs.getD 23 .nilIface = v23 := by rw [Array.getD_eq_getD_getElem?, h23]; rfl
  have e24 : xs.getD 24 .nilIface = v24 := by rw [Array.getD_eq_getD_getElem?, h24]; rfl
  subst e5 e6 e7 e9 e10 e11 e22 e23 e24
  exact e

end Go.Proofs.YtcfhhcjcnafcjaaFmt
