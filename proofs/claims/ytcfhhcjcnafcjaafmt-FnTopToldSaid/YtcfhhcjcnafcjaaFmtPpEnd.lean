/-
  The contract of parsePattern. Conditions as each statement says.
-/
import Derived.Test.YtcfhhcjcnafcjaaFmtPpSmall
import Derived.Test.YtcfhhcjcnafcjaaFmtPpMid
import Derived.Test.YtcfhhcjcnafcjaaFmtPpCls
import Derived.Test.YtcfhhcjcnafcjaaFmtPpQuant
import Derived.Test.YtcfhhcjcnafcjaaFmtPpQuantLit
import Derived.Test.YtcfhhcjcnafcjaaFmtPpErr
import Derived.Deep.LoopGhost
namespace Go.Proofs.YtcfhhcjcnafcjaaFmt
open Go.RowKit
set_option linter.unusedVariables false
set_option linter.unusedSimpArgs false


theorem arr_range (xs : Array Value) (n : Nat) (h : xs.size = n) (g : Nat → Value) (hg : ∀ k, k < n → xs[k]? = some (g k)) : xs = ((List.range n).map g).toArray := by
  apply Array.ext
  · simp [h]
  · intro i h1 h2
    have := hg i (by omega)
    rw [Array.getElem?_eq_getElem h1] at this
    simpa using this
set_option maxRecDepth 1000000 in
theorem lit_range (g : Nat → Value) : ((List.range 308).map g).toArray = #[g 0, g 1, g 2, g 3, g 4, g 5, g 6, g 7, g 8, g 9, g 10, g 11, g 12, g 13, g 14, g 15, g 16, g 17, g 18, g 19, g 20, g 21, g 22, g 23, g 24, g 25, g 26, g 27, g 28, g 29, g 30, g 31, g 32, g 33, g 34, g 35, g 36, g 37, g 38, g 39, g 40, g 41, g 42, g 43, g 44, g 45, g 46, g 47, g 48, g 49, g 50, g 51, g 52, g 53, g 54, g 55, g 56, g 57, g 58, g 59, g 60, g 61, g 62, g 63, g 64, g 65, g 66, g 67, g 68, g 69, g 70, g 71, g 72, g 73, g 74, g 75, g 76, g 77, g 78, g 79, g 80, g 81, g 82, g 83, g 84, g 85, g 86, g 87, g 88, g 89, g 90, g 91, g 92, g 93, g 94, g 95, g 96, g 97, g 98, g 99, g 100, g 101, g 102, g 103, g 104, g 105, g 106, g 107, g 108, g 109, g 110, g 111, g 112, g 113, g 114, g 115, g 116, g 117, g 118, g 119, g 120, g 121, g 122, g 123, g 124, g 125, g 126, g 127, g 128, g 129, g 130, g 131, g 132, g 133, g 134, g 135, g 136, g 137, g 138, g 139, g 140, g 141, g 142, g 143, g 144, g 145, g 146, g 147, g 148, g 149, g 150, g 151, g 152, g 153, g 154, g 155, g 156, g 157, g 158, g 159, g 160, g 161, g 162, g 163, g 164, g 165, g 166, g 167, g 168, g 169, g 170, g 171, g 172, g 173, g 174, g 175, g 176, g 177, g 178, g 179, g 180, g 181, g 182, g 183, g 184, g 185, g 186, g 187, g 188, g 189, g 190, g 191, g 192, g 193, g 194, g 195, g 196, g 197, g 198, g 199, g 200, g 201, g 202, g 203, g 204, g 205, g 206, g 207, g 208, g 209, g 210, g 211, g 212, g 213, g 214, g 215, g 216, g 217, g 218, g 219, g 220, g 221, g 222, g 223, g 224, g 225, g 226, g 227, g 228, g 229, g 230, g 231, g 232, g 233, g 234, g 235, g 236, g 237, g 238, g 239, g 240, g 241, g 242, g 243, g 244, g 245, g 246, g 247, g 248, g 249, g 250, g 251, g 252, g 253, g 254, g 255, g 256, g 257, g 258, g 259, g 260, g 261, g 262, g 263, g 264, g 265, g 266, g 267, g 268, g 269, g 270, g 271, g 272, g 273, g 274, g 275, g 276, g 277, g 278, g 279, g 280, g 281, g 282, g 283, g 284, g 285, g 286, g 287, g 288, g 289, g 290, g 291, g 292, g 293, g 294, g 295, g 296, g 297, g 298, g 299, g 300, g 301, g 302, g 303, g 304, g 305, g 306, g 307] := by kernel_rfl
set_option maxRecDepth 1000000 in
theorem frame_lit (xs : Array Value) (h : xs.size = 308) {v0 v1 v5 : Value} (h0 : xs[0]? = some v0) (h1 : xs[1]? = some v1) (h5 : xs[5]? = some v5) : ∃ f : Nat → Value, (∀ k, k < 308 → xs[k]? = some (f k)) ∧ xs = #[v0, v1, f 2, f 3, f 4, v5, f 6, f 7, f 8, f 9, f 10, f 11, f 12, f 13, f 14, f 15, f 16, f 17, f 18, f 19, f 20, f 21, f 22, f 23, f 24, f 25, f 26, f 27, f 28, f 29, f 30, f 31, f 32, f 33, f 34, f 35, f 36, f 37, f 38, f 39, f 40, f 41, f 42, f 43, f 44, f 45, f 46, f 47, f 48, f 49, f 50, f 51, f 52, f 53, f 54, f 55, f 56, f 57, f 58, f 59, f 60, f 61, f 62, f 63, f 64, f 65, f 66, f 67, f 68, f 69, f 70, f 71, f 72, f 73, f 74, f 75, f 76, f 77, f 78, f 79, f 80, f 81, f 82, f 83, f 84, f 85, f 86, f 87, f 88, f 89, f 90, f 91, f 92, f 93, f 94, f 95, f 96, f 97, f 98, f 99, f 100, f 101, f 102, f 103, f 104, f 105, f 106, f 107, f 108, f 109, f 110, f 111, f 112, f 113, f 114, f 115, f 116, f 117, f 118, f 119, f 120, f 121, f 122, f 123, f 124, f 125, f 126, f 127, f 128, f 129, f 130, f 131, f 132, f 133, f 134, f 135, f 136, f 137, f 138, f 139, f 140, f 141, f 142, f 143, f 144, f 145, f 146, f 147, f 148, f 149, f 150, f 151, f 152, f 153, f 154, f 155, f 156, f 157, f 158, f 159, f 160, f 161, f 162, f 163, f 164, f 165, f 166, f 167, f 168, f 169, f 170, f 171, f 172, f 173, f 174, f 175, f 176, f 177, f 178, f 179, f 180, f 181, f 182, f 183, f 184, f 185, f 186, f 187, f 188, f 189, f 190, f 191, f 192, f 193, f 194, f 195, f 196, f 197, f 198, f 199, f 200, f 201, f 202, f 203, f 204, f 205, f 206, f 207, f 208, f 209, f 210, f 211, f 212, f 213, f 214, f 215, f 216, f 217, f 218, f 219, f 220, f 221, f 222, f 223, f 224, f 225, f 226, f 227, f 228, f 229, f 230, f 231, f 232, f 233, f 234, f 235, f 236, f 237, f 238, f 239, f 240, f 241, f 242, f 243, f 244, f 245, f 246, f 247, f 248, f 249, f 250, f 251, f 252, f 253, f 254, f 255, f 256, f 257, f 258, f 259, f 260, f 261, f 262, f 263, f 264, f 265, f 266, f 267, f 268, f 269, f 270, f 271, f 272, f 273, f 274, f 275, f 276, f 277, f 278, f 279, f 280, f 281, f 282, f 283, f 284, f 285, f 286, f 287, f 288, f 289, f 290, f 291, f 292, f 293, f 294, f 295, f 296, f 297, f 298, f 299, f 300, f 301, f 302, f 303, f 304, f 305, f 306, f 307] := by
  have hf : ∀ k, k < 308 → xs[k]? = some (xs.getD k .nilIface) := fun k hk => by
    rw [Array.getD_eq_getD_getElem?, Array.getElem?_eq_getElem (by omega)]; rfl
  refine ⟨fun k => xs.getD k .nilIface, hf, ?_⟩
  have e := (arr_range xs 308 h _ hf).trans (lit_range _)
  have e0 : xs.getD 0 .nilIface = v0 := by rw [Array.getD_eq_getD_getElem?, h0]; rfl
  have e1 : xs.getD 1 .nilIface = v1 := by rw [Array.getD_eq_getD_getElem?, h1]; rfl
  have e5 : xs.getD 5 .nilIface = v5 := by rw [Array.getD_eq_getD_getElem?, h5]; rfl
  subst e0 e1 e5
  exact e

section
variable {w : World} {b B : Nat} {sao : Option Addr} {scap : Nat} {zs : List Int} {top must : Bool} {r : PR} {cs : Nat}
set_option maxRecDepth 1000000 in
set_option maxHeartbeats 1000000 in
theorem pp_round (hB : w.heap.size = B) (hb : b < B) (hsr : ∀ sb so, sao = some ⟨sb, so, none⟩ → sb < B) (h0 : 0 < zs.length) (hl : zs.length ≤ 4194304) (ih : PIh b sao scap zs cs)
    {a : Act} {wr : World} {c : Nat} {K : Act → World → Prop} (hf : PFr b B top a) (hrel : PRel w B b sao scap zs top must r cs wr c)
    (hK : ∀ a' w' c', c < c' → PFr b B top a' → PRel w B b sao scap zs top must r cs w' c' → K a' w') :
    ppBody.wp Tryf.prog (Exit.then K (PQ w B b sao scap zs top must r)) a wr := by
  obtain ⟨f, -, hfr⟩ := frame_lit a.tmps hf.sz hf.s0 hf.s1 hf.s5
  have ha : a = { tmps := a.tmps, defers := [] } := by cases a; simp only [Act.mk.injEq, true_and]; exact hf.df
  rw [ha, hfr]
  clear ha hfr hf
  obtain ⟨s', q, ao, cap, acc, vs, ho, hs, hg, hr, hle, hcm, hcb⟩ := hrel
  cases hr with
  | fin hfin => exact pp_fin hB hb hsr h0 hl ih ho hs hg hle hcm hcb hK hfin rfl f
  | close hz => exact pp_close hB hb hsr h0 hl ih ho hs hg hle hcm hcb hK hz rfl f
  | closeTop hz => exact pp_closeTop hB hb hsr h0 hl ih ho hs hg hle hcm hcb hz rfl f
  | idx h1 h2 => exact pp_idx hB hb hsr h0 hl ih ho hs hg hle hcm hcb h1 h2 rfl f
  | clsErr h1 h2 => exact pp_clsErr hB hb hsr h0 hl ih ho hs hg hle hcm hcb h1 h2 rfl f
  | capOpen h1 h2 h3 h4 => exact pp_capOpen hB hb hsr h0 hl ih ho hs hg hle hcm hcb h1 h2 h3 h4 rfl f
  | capErr h1 h2 h3 => exact pp_capErr hB hb hsr h0 hl ih ho hs hg hle hcm hcb h1 h2 h3 rfl f
  | num h1 h2 h3 h4 => exact pp_num hB hb hsr h0 hl ih ho hs hg hle hcm hcb hK h1 h2 h3 h4 f
  | brace h1 h2 h3 => exact pp_brace hB hb hsr h0 hl ih ho hs hg hle hcm hcb hK h1 h2 h3 f
  | esc h1 h2 h3 h4 => exact pp_esc hB hb hsr h0 hl ih ho hs hg hle hcm hcb hK h1 h2 h3 h4 f
  | cls h1 h2 h3 => exact pp_cls hB hb hsr h0 hl ih ho hs hg hle hcm hcb hK h1 h2 h3 f
  | posc h1 h2 h3 => exact pp_posc hB hb hsr h0 hl ih ho hs hg hle hcm hcb hK h1 h2 h3 f
  | capt h1 h2 h3 h4 h5 => exact pp_capt hB hb hsr h0 hl ih ho hs hg hle hcm hcb hK h1 h2 h3 h4 h5 f
  | quant h1 h2 => exact pp_quant hB hb hsr h0 hl ih ho hs hg hle hcm hcb hK rfl h1 h2 f
  | quantLit h1 h2 h3 => exact pp_quantLit hB hb hsr h0 hl ih ho hs hg hle hcm hcb hK h1 h2 h3 f
  | tail h1 h2 h3 => exact pp_tail hB hb hsr h0 hl ih ho hs hg hle hcm hcb hK h1 h2 h3 f
  | dollar h1 h2 h3 => exact pp_dollar hB hb hsr h0 hl ih ho hs hg hle hcm hcb hK h1 h2 h3 f
  | lit h1 h2 h3 => exact pp_lit hB hb hsr h0 hl ih ho hs hg hle hcm hcb hK h1 h2 h3 f

theorem pp_loop (hB : w.heap.size = B) (hb : b < B) (hsr : ∀ sb so, sao = some ⟨sb, so, none⟩ → sb < B) (h0 : 0 < zs.length) (hl : zs.length ≤ 4194304) (ih : PIh b sao scap zs cs)
    {a : Act} {wr : World} {c : Nat} (hf : PFr b B top a) (hrel : PRel w B b sao scap zs top must r cs wr c) :
    (Code.loop ppBody).wp Tryf.prog (PQ w B b sao scap zs top must r) a wr := by
  refine wp_loop_ghost (fun n a' w' => ∃ c', n = zs.length + 1 - c' ∧ PFr b B top a' ∧ PRel w B b sao scap zs top must r cs w' c') (zs.length + 1 - c) ⟨c, rfl, hf, hrel⟩ ?_
  rintro n a' w' ⟨c', rfl, hf', hrel'⟩
  refine pp_round hB hb hsr h0 hl ih hf' hrel' ?_
  intro a2 w2 c2 hlt hf2 hrel2
  have : c2 ≤ zs.length + 1 := by obtain ⟨_, _, _, _, _, _, _, _, _, _, _, _, h⟩ := hrel2; exact h
  exact ⟨_, by omega, c2, rfl, hf2, hrel2⟩
end



section
variable {w : World} {b : Nat} {sao : Option Addr} {scap : Nat} {zs : List Int} {c s : Nat}
theorem patO_start (w : World) : PatO (w.alloc (.cells #[.bool false, .bool false, .slice none 0 0] 76)) w.heap.size w.heap.size false false none 0 [] [] :=
  ⟨blk_new _ _, ⟨rfl, .inl ⟨rfl, rfl⟩⟩, .nil, Nat.le_refl _⟩
theorem pp_results {tmps : Array Value} {w : World} {v : Value} (h : tmps[4]? = some v) : (results Tryf.f18 tmps).run Tryf.prog w = .ok v w := by
  have h' : tmps[4]?.getD undef = v := by rw [h]; rfl
  simp [results, Tryf.results18, h']
theorem act_lit {a : Act} (h : a.defers = []) : a = { tmps := a.tmps, defers := [] } := by cases a; simp only [Act.mk.injEq, true_and]; exact h

set_option maxRecDepth 1000000 in
set_option maxHeartbeats 4000000 in
theorem parsePat_step (h : Scan w b sao scap zs c s) (h0 : 0 < zs.length) (hl : zs.length ≤ 4194304) (hc : c ≤ zs.length) (ih : PIh b sao scap zs c) {top must : Bool} {r : PR} (hP : PTop zs top c must r) :
    Calls Tryf.prog 18 #[.pointer (some ⟨b, 0, none⟩), .bool top] w (PatPostR w b sao scap zs must r) := by
  have hbw := Lib.hid (blk_lt h.blk)
  have hsrc := Lib.hid (h.srcLt h0)
  have HO := Lib.hid (patO_start w)
  have HS := Lib.hid (h.grownAlloc (.cells #[.bool false, .bool false, .slice none 0 0] 76))
  have HG := Lib.hid (one_alloc (one_refl w (some b)) (.cells #[.bool false, .bool false, .slice none 0 0] 76))
  have IH := Lib.hid ih
  have HP := Lib.hid hP
  clear h ih hP
  rcases HP.out with ⟨htop, h94, hmust, hr⟩ | ⟨h94, hmust, hr⟩
  · subst htop hmust
    have HZ := Lib.hid h94
    have HR := Lib.hid hr
    have hlt : c < zs.length := chr_lt (by rw [h94]; omega)
    clear h94 hr
    go_enter Tryf.func18, Tryf.ntmps18
    go_wp2_with fail
    refine wp_scope_exit 0 rfl (fun _ _ _ h => h) ?_
    go_wp2_with fail
    generalize w.alloc (.cells #[.bool false, .bool false, .slice none 0 0] 76) = w0 at *
    refine (peek_at HS.out h0 HZ.out).mono ?_
    rintro e w1 ⟨rfl, hs1, hg1⟩
    have HO1 := Lib.hid (HO.out.call hg1 hbw.out)
    have HS1 := Lib.hid hs1
    have HG1 := Lib.hid (one_trans HG.out hg1)
    clear hs1 hg1
    go_wp2_with fail
    refine (next_at HS1.out (by omega) HZ.out).mono ?_
    rintro e w2 ⟨rfl, hs2, hg2⟩
    have HO2 := Lib.hid (HO1.out.call hg2 hbw.out)
    have HS2 := Lib.hid hs2
    have HG2 := Lib.hid (one_trans HG1.out hg2)
    have k2 := blk_cell HO2.out.blk 0 _ rfl
    have f2 := blk_free HO2.out.blk 0
    clear hs2 hg2
    go_wp2_with fail
    have HO3 := Lib.hid (HO2.out.setMust true)
    have HS3 := Lib.hid (HS2.out.setFar (B := w.heap.size) (i := 0) (Nat.le_refl _) hbw.out hsrc.out (u := .bool true))
    have HG3 := Lib.hid (one_setCell HG2.out (p := ⟨w.heap.size, 0, none⟩) (.inr (Nat.le_refl _)) (.bool true))
    refine wp_mono (pp_loop rfl hbw.out hsrc.out h0 hl IH.out (cs := c) (c := (c + 1)) (must := true) (r := r) ⟨rfl, rfl, rfl, rfl, rfl⟩ ⟨s, false, none, 0, [], [], HO3.out, HS3.out, HG3.out, HR.out, by simp, by omega, by omega⟩) ?_
    intro e a' w' hq
    cases e with
    | goto n =>
      obtain ⟨rfl, hf, l, tl, cf, s2, ao2, cap2, vs2, rfl, hp2, hs2, hg2⟩ := hq
      refine ⟨rfl, ?_⟩
      obtain ⟨f, -, hfr⟩ := frame_lit a'.tmps hf.sz hf.s0 hf.s1 hf.s5
      have ha := act_lit hf.df
      rw [hfr] at ha
      subst ha
      have HP2 := Lib.hid (patPost_mk rfl hp2 hs2 hg2)
      clear hfr hf hp2 hs2 hg2
      go_wp2_with fail
      go_ret
      exact HP2.out
    | ret =>
      obtain ⟨hf, h4, l, tl, cf, s2, ao2, cap2, vs2, rfl, hp2, hs2, hg2⟩ := hq
      exact bodyPost_ret (pp_results h4) hf.df (patPost_mk rfl hp2 hs2 hg2)
    | normal => exact hq.elim
    | exit id => exact hq.elim
    | panic ch => obtain ⟨hd, hg, p, m, rfl, he⟩ := hq; exact ⟨hd, _, rfl, hg, he⟩
    | outgrown => exact hq.elim
  · subst hmust
    have HR := Lib.hid hr
    have H94 := Lib.hid h94
    clear hr h94
    cases top with
    | false =>
      go_enter Tryf.func18, Tryf.ntmps18
      go_wp2_with fail
      refine wp_scope_exit 0 rfl (fun _ _ _ h => h) ?_
      go_wp2_with fail
      generalize w.alloc (.cells #[.bool false, .bool false, .slice none 0 0] 76) = w0 at *
      refine wp_mono (pp_loop rfl hbw.out hsrc.out h0 hl IH.out (cs := c) (c := c) (must := false) (r := r) ⟨rfl, rfl, rfl, rfl, rfl⟩ ⟨s, false, none, 0, [], [], HO.out, HS.out, HG.out, HR.out, by simp, by omega, by omega⟩) ?_
      intro e a' w' hq
      cases e with
      | goto n =>
        obtain ⟨rfl, hf, l, tl, cf, s2, ao2, cap2, vs2, rfl, hp2, hs2, hg2⟩ := hq
        refine ⟨rfl, ?_⟩
        obtain ⟨f, -, hfr⟩ := frame_lit a'.tmps hf.sz hf.s0 hf.s1 hf.s5
        have ha := act_lit hf.df
        rw [hfr] at ha
        subst ha
        have HP2 := Lib.hid (patPost_mk rfl hp2 hs2 hg2)
        clear hfr hf hp2 hs2 hg2
        go_wp2_with fail
        go_ret
        exact HP2.out
      | ret =>
        obtain ⟨hf, h4, l, tl, cf, s2, ao2, cap2, vs2, rfl, hp2, hs2, hg2⟩ := hq
        exact bodyPost_ret (pp_results h4) hf.df (patPost_mk rfl hp2 hs2 hg2)
      | normal => exact hq.elim
      | exit id => exact hq.elim
      | panic ch => obtain ⟨hd, hg, p, m, rfl, he⟩ := hq; exact ⟨hd, _, rfl, hg, he⟩
      | outgrown => exact hq.elim
    | true =>
      have h94 := H94.out rfl
      obtain ⟨z, hz⟩ : ∃ z, chr zs c = z := ⟨_, rfl⟩
      have HZ := Lib.hid hz
      rw [hz] at h94
      clear hz
      go_enter Tryf.func18, Tryf.ntmps18
      go_wp2_with fail
      refine wp_scope_exit 0 rfl (fun _ _ _ h => h) ?_
      go_wp2_with fail
      generalize w.alloc (.cells #[.bool false, .bool false, .slice none 0 0] 76) = w0 at *
      refine (peek_at HS.out h0 HZ.out).mono ?_
      rintro e w1 ⟨rfl, hs1, hg1⟩
      have HO1 := Lib.hid (HO.out.call hg1 hbw.out)
      have HS1 := Lib.hid hs1
      have HG1 := Lib.hid (one_trans HG.out hg1)
      clear hs1 hg1
      go_wp2_with fail
      refine wp_mono (pp_loop rfl hbw.out hsrc.out h0 hl IH.out (cs := c) (c := c) (must := false) (r := r) ⟨rfl, rfl, rfl, rfl, rfl⟩ ⟨s, false, none, 0, [], [], HO1.out, HS1.out, HG1.out, HR.out, by simp, by omega, by omega⟩) ?_
      intro e a' w' hq
      cases e with
      | goto n =>
        obtain ⟨rfl, hf, l, tl, cf, s2, ao2, cap2, vs2, rfl, hp2, hs2, hg2⟩ := hq
        refine ⟨rfl, ?_⟩
        obtain ⟨f, -, hfr⟩ := frame_lit a'.tmps hf.sz hf.s0 hf.s1 hf.s5
        have ha := act_lit hf.df
        rw [hfr] at ha
        subst ha
        have HP2 := Lib.hid (patPost_mk rfl hp2 hs2 hg2)
        clear hfr hf hp2 hs2 hg2
        go_wp2_with fail
        go_ret
        exact HP2.out
      | ret =>
        obtain ⟨hf, h4, l, tl, cf, s2, ao2, cap2, vs2, rfl, hp2, hs2, hg2⟩ := hq
        exact bodyPost_ret (pp_results h4) hf.df (patPost_mk rfl hp2 hs2 hg2)
      | normal => exact hq.elim
      | exit id => exact hq.elim
      | panic ch => obtain ⟨hd, hg, p, m, rfl, he⟩ := hq; exact ⟨hd, _, rfl, hg, he⟩
      | outgrown => exact hq.elim

theorem parsePat_ind : ∀ (n : Nat) (w : World) (c s : Nat) (r : PR), zs.length - c ≤ n → Scan w b sao scap zs c s → 0 < zs.length → zs.length ≤ 4194304 → c ≤ zs.length → PRun zs false c [] false r →
    Calls Tryf.prog 18 #[.pointer (some ⟨b, 0, none⟩), .bool false] w (PatPostR w b sao scap zs false r) := by
  intro n
  induction n with
  | zero =>
    intro w c s r hn h h0 hl hc hr
    exact parsePat_step h h0 hl hc (fun w' c' s' r' _ h1 h2 _ => by omega) (.inr ⟨(fun h => by cases h), rfl, hr⟩)
  | succ n ihn =>
    intro w c s r hn h h0 hl hc hr
    exact parsePat_step h h0 hl hc (fun w' c' s' r' hs h1 h2 hr' => ihn w' c' s' r' (by omega) hs h0 hl h2 hr') (.inr ⟨(fun h => by cases h), rfl, hr⟩)
/-- The contract of the parser at the top. -/
theorem parsePat_r (h : Scan w b sao scap zs 0 s) (h0 : 0 < zs.length) (hl : zs.length ≤ 4194304) {must : Bool} {r : PR} (hP : PTop zs true 0 must r) :
    Calls Tryf.prog 18 #[.pointer (some ⟨b, 0, none⟩), .bool true] w (PatPostR w b sao scap zs must r) :=
  parsePat_step h h0 hl (Nat.zero_le _) (fun w' c' s' r' hs h1 h2 hr' => parsePat_ind zs.length w' c' s' r' (by omega) hs h0 hl h2 hr') hP
theorem parsePat_any (h : Scan w b sao scap zs 0 s) (h0 : 0 < zs.length) (hl : zs.length ≤ 4194304) {must : Bool} {l : List Pt} {tl : Bool} {cf : Nat} (hP : PTop zs true 0 must (.ok l tl cf)) :
    Calls Tryf.prog 18 #[.pointer (some ⟨b, 0, none⟩), .bool true] w (PatPost w b sao scap zs must tl l cf) :=
  parsePat_r h h0 hl hP
end


end Go.Proofs.YtcfhhcjcnafcjaaFmt
