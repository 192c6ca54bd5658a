/-
  The contract of the decoder's closing of a capture. Its condition: the decoder's state lies in memory as told, a capture is open.
-/
import Derived.Test.YtcfhhcjcnafcjaaFmtCloseR2
import Derived.Test.YtcfhhcjcnafcjaaFmtCloseR3
import Derived.Test.YtcfhhcjcnafcjaaFmtCloseR5
import Derived.Test.YtcfhhcjcnafcjaaFmtCloseR6
namespace Go.Proofs.YtcfhhcjcnafcjaaFmt
open Go.RowKit
set_option linter.unusedVariables false
set_option linter.unusedSimpArgs false

set_option maxRecDepth 100000 in
set_option maxHeartbeats 40000000 in
theorem close_any {w0 w : World} {B r p d nc : Nat} {an tl : Bool} {R : Fin 6 → Rw} {ts : List Tk} {txt : List Int} {ps : List Bool} {op ct cl : List Nat} {n c : Nat} (h : DecS w0 w B r p d an tl nc R ts) (hc : Cont R txt ps (op ++ [n]) (ct ++ [c]) cl) (hn : n ≤ 1048576) (hcb : c ≤ 1048576) (ho : op.length ≤ 16) (hct : ct.length = op.length) (hcl : cl.length ≤ 16) (ht : txt.length ≤ 4194304) (hk : ts.length ≤ 4194304) :
    Calls Tryf.prog 14 #[.pointer (some ⟨d, 0, none⟩)] w fun e w' => e = .returned (.tuple #[]) ∧ DPost w0 B r p d an tl nc (ts ++ (if c = 0 then [.cls (.lit 97) 0] else []) ++ [.clo n]) (txt ++ (if c = 0 then [97] else []) ++ [41]) ps op ct (cl ++ [n]) w' := by
  obtain ⟨iu, hiu, hu0, hu1, hu2⟩ := info_parts u8_info
  obtain ⟨ik, hik, ik0, ik1, ik2⟩ := info_parts tok_info
  obtain ⟨ii, hii, hi0, hi1, hi2⟩ := info_parts int_info
  have H := Lib.hid h
  have hon := hc.on
  have hcn := hc.cn
  have htn := hc.tn
  have hkn := h.tn
  have hln := hc.ln
  have e3 : (R 3).n = op.length + 1 := by rw [hon]; simp
  have e4 : (R 4).n = op.length + 1 := by rw [hcn]; simp [hct]
  obtain ⟨g3, hg3⟩ := row_some h.own3 (by omega)
  obtain ⟨g4, hg4⟩ := row_some h.own4 (by omega)
  have k3 : w.cell? ⟨g3, op.length, none⟩ = some (.int .i64 (n : Int)) := by
    have h3 := h.own3
    rw [hg3] at h3
    refine (h3.cellAt op.length (by omega)).trans ?_
    rw [hc.ox, ints_get]
    simp
  have k4 : w.cell? ⟨g4, op.length, none⟩ = some (.int .i64 (c : Int)) := by
    have h4 := h.own4
    rw [hg4] at h4
    refine (h4.cellAt op.length (by omega)).trans ?_
    rw [hc.cx, ints_get, ← hct]
    simp
  have HC := Lib.hid hc
  have HG3 := Lib.hid hg3
  have HG4 := Lib.hid hg4
  obtain ⟨k, hk0⟩ : ∃ k, op.length = k := ⟨_, rfl⟩
  have kd0 : w.cell? ⟨d, 0, none⟩ = some (.pointer (some ⟨p, 0, none⟩)) := blk_cell h.dblk 0 _ rfl
  have kd1 := blk_cell h.dblk 1 _ rfl
  have kd2 := blk_cell h.dblk 2 _ rfl
  rw [hg3, e3] at kd1
  rw [hg4, e4] at kd2
  rw [hk0] at k3 k4 kd1 kd2 ho
  have E3 := Lib.hid e3
  have E4 := Lib.hid e4
  have HK := Lib.hid hk0
  have hb1 : (k : Int) < (k : Int) + 1 := by omega
  have hb2 : (k : Int) < ((k + 1 : Nat) : Int) := by omega
  have hwk : IntKind.i64.wrap (k : Int) = (k : Int) := by rw [IntWalk.i64_in _ (by omega)]
  have htn' : (R 0).n ≤ 4194304 := by omega
  have hkn' : (R 1).n ≤ 4194304 := by omega
  have hln' : (R 5).n ≤ 16 := by omega
  clear h hc hg3 hg4 hon hcn e3 e4 hk0 htn hkn hln
  obtain ⟨tsx, htsx⟩ : ∃ x, ts ++ (if c = 0 then [Tk.cls (.lit 97) 0] else []) = x := ⟨_, rfl⟩
  obtain ⟨txx, htxx⟩ : ∃ x, txt ++ (if c = 0 then [(97 : Int)] else []) = x := ⟨_, rfl⟩
  have hts1 : tsx.length ≤ 4194310 := by rw [← htsx, List.length_append]; split <;> simp <;> omega
  have htx1 : txx.length ≤ 4194310 := by rw [← htxx, List.length_append]; split <;> simp <;> omega
  have HTS : Hid (c = 0 → ts ++ [Tk.cls (.lit 97) 0] = tsx ∧ txt ++ [(97 : Int)] = txx) := Lib.hid (fun h => by rw [if_pos h] at htsx htxx; exact ⟨htsx, htxx⟩)
  have HTN : Hid (c ≠ 0 → ts = tsx ∧ txt = txx) := Lib.hid (fun h => by rw [if_neg h, List.append_nil] at htsx htxx; exact ⟨htsx, htxx⟩)
  rw [htsx, htxx]
  clear htsx htxx
  go_enter Tryf.func14, Tryf.ntmps14
  go_upto_region 1 with (fail)
  have HMID : Hid (Mid w0 w B r p d an tl nc ts txt ps (op ++ [n]) (ct ++ [c]) cl R) := Lib.hid ⟨R, H.out, HC.out, rfl, rfl⟩
  go_upto_if 17 with (fail)
  go_cut [] (fun wc => Mid w0 wc B r p d an tl nc tsx txx ps (op ++ [n]) (ct ++ [c]) cl R)
  case first =>
    by_cases hc0 : c = 0
    · subst hc0
      have hcut := HMID.out
      obtain ⟨R1, hd1, hc1, hr3, hr4⟩ := hcut
      have H1 := Lib.hid hd1
      have HCC := Lib.hid hc1
      have HR34 : Hid (R1 3 = R 3 ∧ R1 4 = R 4) := Lib.hid ⟨hr3, hr4⟩
      have htn2 : (R1 0).n ≤ 4194400 := by rw [hc1.tn]; first | omega | (simp; omega)
      have hkn2 : (R1 1).n ≤ 4194400 := by rw [hd1.tn]; first | omega | (simp; omega)
      have hln2 : (R1 5).n ≤ 16 := by rw [hc1.ln]; exact hcl
      clear hd1 hc1 hr3 hr4
      have ad0 := blk_cell H1.out.dblk 0 _ rfl
      have afd0 := blk_free H1.out.dblk 0
      have ap1 := blk_cell H1.out.pblk 1 _ rfl
      have afp1 := blk_free H1.out.pblk 1
      have n0 : ∀ o, (w.alloc o).cell? ⟨d, 0, none⟩ = some (.pointer (some ⟨p, 0, none⟩)) := fun o => blk_cell (blk_alloc H1.out.dblk o) 0 _ rfl
      have n1 : ∀ o, (w.alloc o).cell? ⟨p, 1, none⟩ = some (.slice (R1 1).ao (R1 1).n (R1 1).cap) := fun o => blk_cell (blk_alloc H1.out.pblk o) 1 _ rfl
      go_upto_region 2 with (fail)
      go_cut [] (fun wc => Mid w0 wc B r p d an tl nc (ts ++ [.cls (.lit 97) 0]) txt ps (op ++ [n]) (ct ++ [0]) cl R)
      case first =>
        refine wp_mono (wp_code (c' := closeRg 2) (by kernel_rfl) (close_rg2 H1.out HCC.out (by omega))) ?_
        rintro e a' w' hq
        cases e with
        | normal =>
          obtain ⟨⟨g18, g19, g20, g21, g22, g23, g24, g25, g26, g27, g28, g29, g30, g31, g32, g33, g34, rfl⟩, R2, h1, h2, h3, h4⟩ := hq
          have HF := Lib.hid (And.intro h1 (And.intro h2 (And.intro (h3.trans HR34.out.1) (h4.trans HR34.out.2))))
          clear h1 h2 h3 h4
          first
            | go_meet
            | (go_wp2_with fail; go_meet)
          case rel => exact ⟨R2, HF.out⟩
        | goto l => exact hq.elim
        | exit id => exact hq.elim
        | ret => exact hq.elim
        | panic ch => exact hq.elim
        | outgrown => exact hq.elim
      clear n0 n1 ad0 afd0 ap1 afp1
      obtain ⟨R1, hd1, hc1, hr3, hr4⟩ := hcut
      have H1 := Lib.hid hd1
      have HCC := Lib.hid hc1
      have HR34 : Hid (R1 3 = R 3 ∧ R1 4 = R 4) := Lib.hid ⟨hr3, hr4⟩
      have htn2 : (R1 0).n ≤ 4194400 := by rw [hc1.tn]; first | omega | (simp; omega)
      have hkn2 : (R1 1).n ≤ 4194400 := by rw [hd1.tn]; first | omega | (simp; omega)
      have hln2 : (R1 5).n ≤ 16 := by rw [hc1.ln]; exact hcl
      clear hd1 hc1 hr3 hr4
      have ad0 := blk_cell H1.out.dblk 0 _ rfl
      have afd0 := blk_free H1.out.dblk 0
      have ap0 := blk_cell H1.out.pblk 0 _ rfl
      have afp0 := blk_free H1.out.pblk 0
      have n0 : ∀ o, (wc.alloc o).cell? ⟨d, 0, none⟩ = some (.pointer (some ⟨p, 0, none⟩)) := fun o => blk_cell (blk_alloc H1.out.dblk o) 0 _ rfl
      have n1 : ∀ o, (wc.alloc o).cell? ⟨p, 0, none⟩ = some (.slice (R1 0).ao (R1 0).n (R1 0).cap) := fun o => blk_cell (blk_alloc H1.out.pblk o) 0 _ rfl
      go_upto_region 3 with (fail)
      go_cut [] (fun wc => Mid w0 wc B r p d an tl nc (ts ++ [.cls (.lit 97) 0]) (txt ++ [97]) ps (op ++ [n]) (ct ++ [0]) cl R)
      case first =>
        refine wp_mono (wp_code (c' := closeRg 3) (by kernel_rfl) (close_rg3 H1.out HCC.out (by omega))) ?_
        rintro e a' w' hq
        cases e with
        | normal =>
          obtain ⟨⟨g35, g36, g37, g38, g39, g40, g41, g42, g43, g44, g45, g46, g47, g48, g49, rfl⟩, R2, h1, h2, h3, h4⟩ := hq
          have HF := Lib.hid (And.intro h1 (And.intro h2 (And.intro (h3.trans HR34.out.1) (h4.trans HR34.out.2))))
          clear h1 h2 h3 h4
          first
            | go_meet
            | (go_wp2_with fail; go_meet)
          case rel => exact ⟨R2, HF.out⟩
        | goto l => exact hq.elim
        | exit id => exact hq.elim
        | ret => exact hq.elim
        | panic ch => exact hq.elim
        | outgrown => exact hq.elim
      clear n0 n1 ad0 afd0 ap0 afp0
      obtain ⟨R1, hd1, hc1, hr3, hr4⟩ := hcut
      have H1 := Lib.hid hd1
      have HCC := Lib.hid hc1
      have HR34 : Hid (R1 3 = R 3 ∧ R1 4 = R 4) := Lib.hid ⟨hr3, hr4⟩
      have htn2 : (R1 0).n ≤ 4194400 := by rw [hc1.tn]; first | omega | (simp; omega)
      have hkn2 : (R1 1).n ≤ 4194400 := by rw [hd1.tn]; first | omega | (simp; omega)
      have hln2 : (R1 5).n ≤ 16 := by rw [hc1.ln]; exact hcl
      clear hd1 hc1 hr3 hr4
      go_wp2_with fail
      go_meet
      case rel => rw [← (HTS.out (by first | rfl | trivial)).1, ← (HTS.out (by first | rfl | trivial)).2]; exact ⟨R1, H1.out, HCC.out, HR34.out⟩
    · have tc : ((c : Int) == 0) = false := beq_eq_false_iff_ne.2 (by omega)
      go_wp2_with fail
      go_meet
      case rel => rw [← (HTN.out hc0).1, ← (HTN.out hc0).2]; exact HMID.out
  clear k3 k4 kd0 kd1 kd2 HMID
  obtain ⟨R1, hd1, hc1, hr3, hr4⟩ := hcut
  have H1 := Lib.hid hd1
  have HCC := Lib.hid hc1
  have HR34 : Hid (R1 3 = R 3 ∧ R1 4 = R 4) := Lib.hid ⟨hr3, hr4⟩
  have htn2 : (R1 0).n ≤ 4194400 := by rw [hc1.tn]; first | omega | (simp; omega)
  have hkn2 : (R1 1).n ≤ 4194400 := by rw [hd1.tn]; first | omega | (simp; omega)
  have hln2 : (R1 5).n ≤ 16 := by rw [hc1.ln]; exact hcl
  clear hd1 hc1 hr3 hr4
  have kd1 : wc.cell? ⟨d, 1, none⟩ = some (.slice (some ⟨g3, 0, none⟩) (k + 1) (R 3).cap) := by
    have h := blk_cell H1.out.dblk 1 _ rfl
    rw [HR34.out.1, HG3.out, E3.out, HK.out] at h
    exact h
  have k3 : wc.cell? ⟨g3, k, none⟩ = some (.int .i64 (n : Int)) := by
    have h3 := H1.out.own3
    have hx := HCC.out.ox
    rw [HR34.out.1] at h3 hx
    rw [HG3.out] at h3
    refine (h3.cellAt k (by rw [E3.out, HK.out]; omega)).trans ?_
    rw [hx, ints_get, ← HK.out]
    simp
  go_upto_region 5 with (fail)
  clear kd1 k3
  have ad0 := blk_cell H1.out.dblk 0 _ rfl
  have afd0 := blk_free H1.out.dblk 0
  have ap0 := blk_cell H1.out.pblk 0 _ rfl
  have afp0 := blk_free H1.out.pblk 0
  have n0 : ∀ o, (wc.alloc o).cell? ⟨d, 0, none⟩ = some (.pointer (some ⟨p, 0, none⟩)) := fun o => blk_cell (blk_alloc H1.out.dblk o) 0 _ rfl
  have n1 : ∀ o, (wc.alloc o).cell? ⟨p, 0, none⟩ = some (.slice (R1 0).ao (R1 0).n (R1 0).cap) := fun o => blk_cell (blk_alloc H1.out.pblk o) 0 _ rfl
  go_upto_region 5 with (fail)
  go_cut [] (fun wc => Mid w0 wc B r p d an tl nc tsx (txx ++ [41]) ps (op ++ [n]) (ct ++ [c]) cl R)
  case first =>
    refine wp_mono (wp_code (c' := closeRg 5) (by kernel_rfl) (close_rg5 H1.out HCC.out (by omega))) ?_
    rintro e a' w' hq
    cases e with
    | normal =>
      obtain ⟨⟨g57, g58, g59, g60, g61, g62, g63, g64, g65, g66, g67, g68, g69, g70, g71, rfl⟩, R2, h1, h2, h3, h4⟩ := hq
      have HF := Lib.hid (And.intro h1 (And.intro h2 (And.intro (h3.trans HR34.out.1) (h4.trans HR34.out.2))))
      clear h1 h2 h3 h4
      first
        | go_meet
        | (go_wp2_with fail; go_meet)
      case rel => exact ⟨R2, HF.out⟩
    | goto l => exact hq.elim
    | exit id => exact hq.elim
    | ret => exact hq.elim
    | panic ch => exact hq.elim
    | outgrown => exact hq.elim
  clear n0 n1 ad0 afd0 ap0 afp0
  obtain ⟨R1, hd1, hc1, hr3, hr4⟩ := hcut
  have H1 := Lib.hid hd1
  have HCC := Lib.hid hc1
  have HR34 : Hid (R1 3 = R 3 ∧ R1 4 = R 4) := Lib.hid ⟨hr3, hr4⟩
  have htn2 : (R1 0).n ≤ 4194400 := by rw [hc1.tn]; first | omega | (simp; omega)
  have hkn2 : (R1 1).n ≤ 4194400 := by rw [hd1.tn]; first | omega | (simp; omega)
  have hln2 : (R1 5).n ≤ 16 := by rw [hc1.ln]; exact hcl
  clear hd1 hc1 hr3 hr4
  have ad0 := blk_cell H1.out.dblk 0 _ rfl
  have afd0 := blk_free H1.out.dblk 0
  have ap1 := blk_cell H1.out.pblk 1 _ rfl
  have afp1 := blk_free H1.out.pblk 1
  have n0 : ∀ o, (wc.alloc o).cell? ⟨d, 0, none⟩ = some (.pointer (some ⟨p, 0, none⟩)) := fun o => blk_cell (blk_alloc H1.out.dblk o) 0 _ rfl
  have n1 : ∀ o, (wc.alloc o).cell? ⟨p, 1, none⟩ = some (.slice (R1 1).ao (R1 1).n (R1 1).cap) := fun o => blk_cell (blk_alloc H1.out.pblk o) 1 _ rfl
  go_upto_region 6 with (fail)
  go_cut [] (fun wc => Mid w0 wc B r p d an tl nc (tsx ++ [.clo n]) (txx ++ [41]) ps (op ++ [n]) (ct ++ [c]) cl R)
  case first =>
    refine wp_mono (wp_code (c' := closeRg 6) (by kernel_rfl) (close_rg6 H1.out HCC.out (by omega))) ?_
    rintro e a' w' hq
    cases e with
    | normal =>
      obtain ⟨⟨g72, g73, g74, g75, g76, g77, g78, g79, g80, g81, g82, g83, g84, g85, g86, g87, g88, rfl⟩, R2, h1, h2, h3, h4⟩ := hq
      have HF := Lib.hid (And.intro h1 (And.intro h2 (And.intro (h3.trans HR34.out.1) (h4.trans HR34.out.2))))
      clear h1 h2 h3 h4
      first
        | go_meet
        | (go_wp2_with fail; go_meet)
      case rel => exact ⟨R2, HF.out⟩
    | goto l => exact hq.elim
    | exit id => exact hq.elim
    | ret => exact hq.elim
    | panic ch => exact hq.elim
    | outgrown => exact hq.elim
  clear n0 n1 ad0 afd0 ap1 afp1
  obtain ⟨R1, hd1, hc1, hr3, hr4⟩ := hcut
  have H1 := Lib.hid hd1
  have HCC := Lib.hid hc1
  have HR34 : Hid (R1 3 = R 3 ∧ R1 4 = R 4) := Lib.hid ⟨hr3, hr4⟩
  have htn2 : (R1 0).n ≤ 4194400 := by rw [hc1.tn]; first | omega | (simp; omega)
  have hkn2 : (R1 1).n ≤ 4194400 := by rw [hd1.tn]; first | omega | (simp; omega)
  have hln2 : (R1 5).n ≤ 16 := by rw [hc1.ln]; exact hcl
  clear hd1 hc1 hr3 hr4
  have kd3 := blk_cell H1.out.dblk 3 _ rfl
  have kf3 := blk_free H1.out.dblk 3
  have hw1 := H1.out.Bw
  go_upto_region 8 with (at_builtin; go_loud (refine wpList_push _ rfl (.tmp 93) (.tmp 95) 37 rfl B 3 ii (.int .i64 0) 1 8 Tryf.underlying37 hii hi0 hi1 hi2 rfl (by decide) _ _ _ _ rfl (H1.out.own5.alloc _) ⟨wc.heap.size, 0, none⟩ 1 1 [.int .i64 (n : Int)] rfl rfl (news_any (by simp)) (by simp [Value.oneCell']) (by decide) (by unfold maxLen; omega) (by omega) (Nat.le_trans H1.out.Bw (by simp)) ?_; intro g1 c1 w8 hown hgrow hwhere; have HO := Lib.hid hown; have HGw := Lib.hid hgrow; have HWh := Lib.hid hwhere; have hk8 := (H1.out.alloc _).dGrown (i := 5) HGw.out; have kc8 := blk_cell hk8 3 _ rfl; have fc8 := blk_free hk8 3; clear hown hgrow hwhere hk8))
  have H2 := Lib.hid ((H1.out.alloc _).push5 HO.out HGw.out HWh.out)
  have HC2 := Lib.hid (HCC.out.push5 (some ⟨g1, 0, none⟩) c1 n)
  generalize hw9 : World.setCell w8 _ _ = w9 at *
  clear HO HGw HWh kc8 fc8 hw9 kd3 kf3
  have hcap3 : k + 1 ≤ (R 3).cap := by have := cap_le H2.out.own3; rw [show (upd R1 5 ⟨some ⟨g1, 0, none⟩, c1, (R1 5).n + 1, (R1 5).xs ++ [.int .i64 (n : Int)]⟩) 3 = R1 3 from rfl, HR34.out.1, E3.out, HK.out] at this; exact this
  have hcap4 : k + 1 ≤ (R 4).cap := by have := cap_le H2.out.own4; rw [show (upd R1 5 ⟨some ⟨g1, 0, none⟩, c1, (R1 5).n + 1, (R1 5).xs ++ [.int .i64 (n : Int)]⟩) 4 = R1 4 from rfl, HR34.out.2, E4.out, HK.out] at this; exact this
  have kd1 : w9.cell? ⟨d, 1, none⟩ = some (.slice (some ⟨g3, 0, none⟩) (k + 1) (R 3).cap) := by
    have h := blk_cell H2.out.dblk 1 _ rfl
    rw [show (upd R1 5 ⟨some ⟨g1, 0, none⟩, c1, (R1 5).n + 1, (R1 5).xs ++ [.int .i64 (n : Int)]⟩) 3 = R1 3 from rfl, HR34.out.1, HG3.out, E3.out, HK.out] at h
    exact h
  have kf1 := blk_free H2.out.dblk 1
  have hs1 : (k : Int) ≤ ((R 3).cap : Int) := by omega
  have hs2 : (k : Int) ≤ ((R 4).cap : Int) := by omega
  have hk3 : k ≤ ((upd R1 5 ⟨some ⟨g1, 0, none⟩, c1, (R1 5).n + 1, (R1 5).xs ++ [.int .i64 (n : Int)]⟩) 3).n := by
    show k ≤ (R1 3).n
    rw [HR34.out.1, E3.out, HK.out]; omega
  have hg3' : ((upd R1 5 ⟨some ⟨g1, 0, none⟩, c1, (R1 5).n + 1, (R1 5).xs ++ [.int .i64 (n : Int)]⟩) 3).ao = some ⟨g3, 0, none⟩ := by
    show (R1 3).ao = _
    rw [HR34.out.1]; exact HG3.out
  have h3c := H2.out.cut3 hg3' hk3
  have h3k := HC2.out.cut3 HK.out
  rw [show ((upd R1 5 ⟨some ⟨g1, 0, none⟩, c1, (R1 5).n + 1, (R1 5).xs ++ [.int .i64 (n : Int)]⟩) 3).cap = (R 3).cap from by show (R1 3).cap = _; rw [HR34.out.1], hg3'] at h3c h3k
  have H3 := Lib.hid h3c
  have HC3 := Lib.hid h3k
  clear h3c h3k hk3 hg3'
  go_upto_region 9 with (fail)
  generalize hw10 : World.setCell w9 _ _ = w10 at *
  clear hw10 kd1 kf1
  have hm3 : ∃ R3, DecS w0 w10 B r p d an tl nc R3 (tsx ++ [.clo n]) ∧ Cont R3 (txx ++ [41]) ps op (ct ++ [c]) (cl ++ [n]) ∧ R3 4 = R 4 := ⟨_, H3.out, HC3.out, HR34.out.2⟩
  clear H3 HC3 HC2
  obtain ⟨R3, hd3, hc3, hr4⟩ := hm3
  have kd2 : w10.cell? ⟨d, 2, none⟩ = some (.slice (some ⟨g4, 0, none⟩) (k + 1) (R 4).cap) := by
    have h := blk_cell hd3.dblk 2 _ rfl
    rw [hr4, HG4.out, E4.out, HK.out] at h
    exact h
  have kf2 := blk_free hd3.dblk 2
  have h4c := hd3.cut4 (g := g4) (k := k) (by rw [hr4]; exact HG4.out) (by rw [hr4, E4.out, HK.out]; omega)
  have h4k := hc3.cut4 (k := k) (by rw [hct]; exact HK.out)
  rw [show (R3 4).cap = (R 4).cap from by rw [hr4], show (R3 4).ao = some ⟨g4, 0, none⟩ from by rw [hr4]; exact HG4.out] at h4c h4k
  have H4 := Lib.hid h4c
  have HC4 := Lib.hid h4k
  clear h4c h4k hd3 hc3 hr4
  go_wp2_with fail
  go_end0
  exact ⟨rfl, _, H4.out, HC4.out⟩
end Go.Proofs.YtcfhhcjcnafcjaaFmt
