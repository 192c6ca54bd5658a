/-
  A round of parsePattern, the case quant. Its condition: as its statement says.
-/
import Derived.Test.YtcfhhcjcnafcjaaFmtPatAll
namespace Go.Proofs.YtcfhhcjcnafcjaaFmt
open Go.RowKit
set_option linter.unusedVariables false
set_option linter.unusedSimpArgs false

theorem news_d {W : World} {v : Value} {T : TypeId} {n : Nat} (h : W.heap.size = n) : ∀ (j : Nat) (u : Value), [v][j]? = some u → ((W.alloc (.cells #[v] T)).drew).cell? ((⟨n, 0, none⟩ : Addr).add j) = some u := news_at2 h
theorem ClAt.form {X : Nat → Prop} {w : World} {c : Cl} {v : Value} (h : ClAt X w c v) : ∃ T a, v = .iface T (.pointer a) := by
  cases c with
  | dot => obtain ⟨b, rfl⟩ := h; exact ⟨_, _, rfl⟩
  | el e => exact ElAt.form h
  | set neg l => obtain ⟨b, ao, cap, vs, rfl, _⟩ := h; exact ⟨_, _, rfl⟩
set_option maxHeartbeats 4000000 in
set_option maxRecDepth 1000000 in
theorem pp_quant {w wr : World} {B b : Nat} {sao : Option Addr} {scap : Nat} {zs : List Int} {top must : Bool} {r : PR} {cs c s' : Nat} {q : Bool} {ao : Option Addr} {cap : Nat} {acc : List Pt} {vs : List Value} {K : Act → World → Prop}
    (hB : w.heap.size = B) (hb : b < B) (hsr : ∀ sb so, sao = some ⟨sb, so, none⟩ → sb < B) (h0 : 0 < zs.length) (hl : zs.length ≤ 4194304) (ih : PIh b sao scap zs cs)
    (ho : PatO wr B B must q ao cap acc vs) (hs : Scan wr b sao scap zs c s') (hg : w.grownBy wr (some b)) (hle : acc.length ≤ c) (hcm : cs ≤ c) (hcb : c ≤ zs.length + 1)
    (hK : ∀ a' w' c', c < c' → PFr b B top a' → PRel w B b sao scap zs top must r cs w' c' → K a' w')
    {acc1 : List Pt} {cl : Cl} (hacc : acc = acc1 ++ [.one cl]) (hz : chr zs c = 42 ∨ chr zs c = 43 ∨ chr zs c = 45 ∨ chr zs c = 63) (hr2 : PRun zs top (c + 1) (acc1 ++ [.rep (chr zs c) cl]) q r) (f : Nat → Value) :
    ppBody.wp Tryf.prog (Exit.then K (PQ w B b sao scap zs top must r)) { tmps := #[.pointer (some ⟨b, 0, none⟩), .bool top, f 2, f 3, f 4, .pointer (some ⟨B, 0, none⟩), f 6, f 7, f 8, f 9, f 10, f 11, f 12, f 13, f 14, f 15, f 16, f 17, f 18, f 19, f 20, f 21, f 22, f 23, f 24, f 25, f 26, f 27, f 28, f 29, f 30, f 31, f 32, f 33, f 34, f 35, f 36, f 37, f 38, f 39, f 40, f 41, f 42, f 43, f 44, f 45, f 46, f 47, f 48, f 49, f 50, f 51, f 52, f 53, f 54, f 55, f 56, f 57, f 58, f 59, f 60, f 61, f 62, f 63, f 64, f 65, f 66, f 67, f 68, f 69, f 70, f 71, f 72, f 73, f 74, f 75, f 76, f 77, f 78, f 79, f 80, f 81, f 82, f 83, f 84, f 85, f 86, f 87, f 88, f 89, f 90, f 91, f 92, f 93, f 94, f 95, f 96, f 97, f 98, f 99, f 100, f 101, f 102, f 103, f 104, f 105, f 106, f 107, f 108, f 109, f 110, f 111, f 112, f 113, f 114, f 115, f 116, f 117, f 118, f 119, f 120, f 121, f 122, f 123, f 124, f 125, f 126, f 127, f 128, f 129, f 130, f 131, f 132, f 133, f 134, f 135, f 136, f 137, f 138, f 139, f 140, f 141, f 142, f 143, f 144, f 145, f 146, f 147, f 148, f 149, f 150, f 151, f 152, f 153, f 154, f 155, f 156, f 157, f 158, f 159, f 160, f 161, f 162, f 163, f 164, f 165, f 166, f 167, f 168, f 169, f 170, f 171, f 172, f 173, f 174, f 175, f 176, f 177, f 178, f 179, f 180, f 181, f 182, f 183, f 184, f 185, f 186, f 187, f 188, f 189, f 190, f 191, f 192, f 193, f 194, f 195, f 196, f 197, f 198, f 199, f 200, f 201, f 202, f 203, f 204, f 205, f 206, f 207, f 208, f 209, f 210, f 211, f 212, f 213, f 214, f 215, f 216, f 217, f 218, f 219, f 220, f 221, f 222, f 223, f 224, f 225, f 226, f 227, f 228, f 229, f 230, f 231, f 232, f 233, f 234, f 235, f 236, f 237, f 238, f 239, f 240, f 241, f 242, f 243, f 244, f 245, f 246, f 247, f 248, f 249, f 250, f 251, f 252, f 253, f 254, f 255, f 256, f 257, f 258, f 259, f 260, f 261, f 262, f 263, f 264, f 265, f 266, f 267, f 268, f 269, f 270, f 271, f 272, f 273, f 274, f 275, f 276, f 277, f 278, f 279, f 280, f 281, f 282, f 283, f 284, f 285, f 286, f 287, f 288, f 289, f 290, f 291, f 292, f 293, f 294, f 295, f 296, f 297, f 298, f 299, f 300, f 301, f 302, f 303, f 304, f 305, f 306, f 307], defers := [] } wr := by
  subst hacc
  obtain ⟨i0, hi, hz0, hz1, hz2⟩ := info_parts pattern_info
  have hbw := Lib.hid hb
  have hsrc := Lib.hid hsr
  have HB := Lib.hid hB
  have IH := Lib.hid ih
  have HOr := Lib.hid ho
  have HSr := Lib.hid hs
  have HGr := Lib.hid hg
  have HK := Lib.hid hK
  clear hB hb hsr ih ho hs hg hK
  conv => arg 2; whnf
  obtain ⟨g, rfl⟩ : ∃ g, ao = some ⟨g, 0, none⟩ := by
    rcases HOr.out.own.2 with ⟨_, h2⟩ | ⟨g, c', cur, h1, _⟩
    · simp at h2
    · simp only [Value.slice.injEq] at h1; exact ⟨g, h1.1⟩
  have hlen : (acc1 ++ [Pt.one cl]).length = acc1.length + 1 := by simp
  rw [hlen] at hle
  obtain ⟨N, hN⟩ : ∃ N, acc1.length = N := ⟨_, rfl⟩
  have hlt : c < zs.length := chr_lt (by rcases hz with h | h | h | h <;> (rw [h]; omega))
  have HR := Lib.hid hr2
  have HZZ := Lib.hid hz
  have HL := Lib.hid (hlen.trans (by rw [hN]) : (acc1 ++ [Pt.one cl]).length = N + 1)
  have HN := Lib.hid hN
  have hNb : N ≤ 4194305 := by omega
  have hleN : N + 1 ≤ c := by omega
  have hcapN : N + 1 ≤ cap := by have := HL.out; rw [← this]; exact owns_cap HOr.out.own
  clear hr2 hz hlen hN hle
  have s0 : (0 : Int) ≤ (N : Int) := Int.natCast_nonneg _
  have s2 : (N : Int) < (N : Int) + 1 := by omega
  have s5 : IntKind.i64.wrap ((N : Int) + 1 - 1) = (N : Int) := by rw [IntWalk.i64_in _ (by omega)]; omega
  have s7 : IntKind.i64.wrap (N : Int) = (N : Int) := by rw [IntWalk.i64_in _ (by omega)]
  have s8 : (N : Int) ≤ (cap : Int) := by omega
  rcases HZZ.out with hz | hz | hz | hz
  all_goals
    have HZ := Lib.hid hz
    clear hz
    go_wp2_with fail
    refine (peek_at HSr.out h0 HZ.out).mono ?_
    rintro e w1 ⟨rfl, hs1, hg1⟩
    have HO1 := Lib.hid (HOr.out.call hg1 hbw.out)
    have HS1 := Lib.hid hs1
    have HG1 := Lib.hid (one_trans HGr.out hg1)
    clear hs1 hg1
    go_wp2_with fail
    refine (next_at HS1.out (by omega) HZ.out).mono ?_
    rintro e w2 ⟨rfl, hs2, hg2⟩
    have HO2 := Lib.hid (HO1.out.call hg2 hbw.out)
    have HS2 := Lib.hid hs2
    have HG2 := Lib.hid (one_trans HG1.out hg2)
    clear hs2 hg2
    have k2 : w2.cell? ⟨B, 2, none⟩ = some (.slice (some ⟨g, 0, none⟩) (N + 1) cap) := by rw [← HL.out]; exact blk_cell HO2.out.blk 2 _ rfl
    have f2 : w2.frozen? ⟨B, 2, none⟩ = false := blk_free HO2.out.blk 2
    obtain ⟨us, v, hvs, hul, hit, hcut⟩ := HO2.out.cut
    obtain ⟨cl', bS, vc, hcl', hv', hXS, hbS, hclS⟩ : ∃ cl' b vc, Pt.one cl = .one cl' ∧ [v] = [.iface 95 (.pointer (some ⟨b, 0, none⟩))] ∧ ¬ (b < B ∨ b = B ∨ blkOf (some (⟨g, 0, none⟩ : Addr)) = some b) ∧ w2.heap[b]? = some (.cells #[vc] 100 (0, 0)) ∧ ClAt (fun k => k < B ∨ k = B ∨ blkOf (some (⟨g, 0, none⟩ : Addr)) = some k) w2 cl' vc := by
      rcases hit.last with h | ⟨hno, _⟩
      · exact h
      · exact absurd rfl (hno cl)
    cases hcl'
    cases hv'
    subst hvs
    obtain ⟨Tv, pv, rfl⟩ := hclS.form
    have kg : w2.cell? ⟨g, N, none⟩ = some (.iface 95 (.pointer (some ⟨bS, 0, none⟩))) := by
      rw [HO2.out.own.cellAt N (by have := HL.out; omega), List.getElem?_append_right (by rw [hul, HN.out]; exact Nat.le_refl _), hul, HN.out, Nat.sub_self]
      rfl
    have HCUT := Lib.hid hcut
    have HBS := Lib.hid hbS
    have HCLS := Lib.hid hclS
    have HXS := Lib.hid hXS
    clear hit hcut hbS hclS hXS hul
    go_wp2_with fail
    go_quiet (fail)
    go_wp2_with fail
    generalize hwd : World.drewN w2 _ = wd
    have HO3 : Hid (PatO (wd.setCell ⟨B, 2, none⟩ (.slice (some ⟨g, 0, none⟩) N cap)) B B must q (some ⟨g, 0, none⟩) cap acc1 us) := by subst hwd; have := HCUT.out; rw [HN.out] at this; exact Lib.hid (this.drewN _)
    have HS3 : Hid (Scan (wd.setCell ⟨B, 2, none⟩ (.slice (some ⟨g, 0, none⟩) N cap)) b sao scap zs (c + 1) s') := by subst hwd; exact Lib.hid ((HS2.out.drewN' _).setFar (B := B) (Nat.le_refl _) hbw.out hsrc.out)
    have HG3 : Hid (w.grownBy (wd.setCell ⟨B, 2, none⟩ (.slice (some ⟨g, 0, none⟩) N cap)) (some b)) := by subst hwd; exact Lib.hid (one_setCell (one_drewN HG2.out _) (p := ⟨B, 2, none⟩) (.inr (by simp [HB.out])) _)
    have HK3 : Hid (∀ (k : Nat) (o : Obj), ¬ (k < B ∨ k = B ∨ blkOf (some (⟨g, 0, none⟩ : Addr)) = some k) → w2.heap[k]? = some o → (wd.setCell ⟨B, 2, none⟩ (.slice (some ⟨g, 0, none⟩) N cap)).heap[k]? = some o) := by
      subst hwd
      exact Lib.hid (fun k o hX ho => by rw [Below.heap_setCell _ _ _ _ (show k ≠ B from fun e => hX (.inr (.inl e)))]; exact ho)
    have kd : wd.cell? ⟨B, 2, none⟩ = some (.slice (some ⟨g, 0, none⟩) (N + 1) cap) := by subst hwd; exact k2
    have fd : wd.frozen? ⟨B, 2, none⟩ = false := by subst hwd; exact f2
    clear hwd k2 f2 kg
    have HBS3 := Lib.hid (HK3.out bS _ HXS.out HBS.out)
    have HCL3 := Lib.hid (HCLS.out.kept HK3.out (fun _ _ h => h))
    go_still_tail 14, (by kernel_rfl)
    change wpList _ _ _ _ _ wd.drew
    go_wp2_with fail
    generalize wd.setCell ⟨B, 2, none⟩ (.slice (some ⟨g, 0, none⟩) N cap) = w3 at *
    have HO9 := Lib.hid (HO3.out.drewN 1)
    have HS9 := Lib.hid HS3.out.drew'
    have HG9 := Lib.hid (one_drew HG3.out)
    have HB9 : Hid (w3.drew.heap[bS]? = some (.cells #[.iface Tv (.pointer pv)] 100 (0, 0))) := HBS3
    have HC9 : Hid (ClAt (fun k => k < B ∨ k = B ∨ blkOf (some (⟨g, 0, none⟩ : Addr)) = some k) w3.drew cl (.iface Tv (.pointer pv))) := Lib.hid (HCL3.out.kept (fun _ _ _ h => h) (fun _ _ h => h))
    clear HO3 HS3 HG3 HK3 HBS3 HCL3 kd fd HCUT HBS HCLS HO2 HS2 HG2 HO1 HS1 HG1 HOr HSr HGr
    have e9 : w3.drewN 1 = w3.drew := rfl
    rw [e9] at HO9
    clear e9
    generalize w3.drew = w9 at *
    have HOWN : Hid (w9.ownsRow B 105 1 (.slice (some ⟨g, 0, none⟩) N cap) N us) := by have := HO9.out.own; rw [HN.out] at this; exact Lib.hid this
    have hb9 : w9.heap[B]? = some (.cells #[.bool must, .bool q, .slice (some ⟨g, 0, none⟩) N cap] 76 (0, 0)) := by have := HO9.out.blk; rw [HN.out] at this; exact this
    have k9 : w9.cell? ⟨B, 2, none⟩ = some (.slice (some ⟨g, 0, none⟩) N cap) := blk_cell hb9 2 _ rfl
    have kc : w9.cell? ⟨bS, 0, none⟩ = some (.iface Tv (.pointer pv)) := blk_cell HB9.out 0 _ rfl
    have n9 : ∀ o, (w9.alloc o).cell? ⟨B, 2, none⟩ = some (.slice (some ⟨g, 0, none⟩) N cap) := fun o => blk_cell (blk_alloc hb9 o) 2 _ rfl
    have m9 : ∀ o o', ((w9.alloc o).alloc o').cell? ⟨B, 2, none⟩ = some (.slice (some ⟨g, 0, none⟩) N cap) := fun o o' => blk_cell (blk_alloc (blk_alloc hb9 o) o') 2 _ rfl
    have HB9' := Lib.hid hb9
    clear hb9
    go_region_law ((refine step_append_lies _ (by rfl) _ _ _ (by rfl) B 105 i0 _ 1 16 Tryf.underlying74 hi hz0 hz1 hz2 rfl (by omega) (.slice (some ⟨g, 0, none⟩) N cap) N us (by rfl) (((HOWN.out.alloc _).alloc _).drew) ⟨w9.heap.size + 1, 0, none⟩ 1 1 [.iface 109 (.pointer (some ⟨w9.heap.size, 0, none⟩))] (by rfl) (by rfl) (news_d (by simp)) (by simp [Value.oneCell']) (by omega) (by unfold maxLen; omega) (by omega) (by have := HO9.out.hm; have := blk_lt HO9.out.blk; simp; omega) (w9.heap.size + 2) (by simp) ?_; intro g1 c1 w8 hown hgrow hat hlt8; have HO' := Lib.hid hown; have HGw := Lib.hid hgrow; have HAt := Lib.hid hat; clear hown hgrow hat hlt8; have hb8 := blk_grown (blk_drew (blk_alloc (blk_alloc HB9'.out _) _)) HGw.out (fun e => by have := HO9.out.row _ (by rw [ownBlock_slice] at e; exact e.symm); omega); have k8 : w8.cell? ⟨B, 2, none⟩ = some (.slice (some ⟨g, 0, none⟩) N cap) := blk_cell hb8 2 _ rfl; have f8 : w8.frozen? ⟨B, 2, none⟩ = false := blk_free hb8 2; clear hb8))
    all_goals
      go_wp2_with fail
      obtain rfl := HN.out
      have HAF := Lib.hid (afterIt_mk' HB.out hbw.out hsrc.out (((HO9.out.alloc _).alloc _).drewN 1) (it_rep w9 _ (xlt HO9.out) HC9.out _) ((HS9.out.grownAlloc _).grownAlloc _).drew' (one_drew (one_alloc (one_alloc HG9.out _) _)) HGw.out HO'.out HAt.out)
      obtain ⟨g2, cp2, v2, ho, hs, hg⟩ := HAF.out
      have HR2 := HR.out
      rw [HZ.out] at HR2
      exact HK.out _ _ (c + 1) (by omega) ⟨rfl, rfl, rfl, rfl, rfl⟩ ⟨s', q, some ⟨g2, 0, none⟩, cp2, _, us ++ [v2], ho, hs, hg, HR2, by simp; omega, by omega, by omega⟩


end Go.Proofs.YtcfhhcjcnafcjaaFmt
