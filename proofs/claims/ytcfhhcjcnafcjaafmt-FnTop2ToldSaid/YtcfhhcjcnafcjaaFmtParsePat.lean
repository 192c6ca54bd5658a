/-
  The contract of parsePattern where the pattern is whole: at the top, and inside a capture. Its condition: the scanner lies in a block of its own; the source has 1 to 2^22 bytes.
-/
import Derived.Test.YtcfhhcjcnafcjaaFmtPpLoop
namespace Go.Proofs.YtcfhhcjcnafcjaaFmt
open Go.RowKit
set_option linter.unusedVariables false
set_option linter.unusedSimpArgs false

section
variable {w : World} {b : Nat} {sao : Option Addr} {scap : Nat} {zs : List Int} {c s : Nat}
theorem patO_start (w : World) : PatO (w.alloc (.cells #[.bool false, .bool false, .slice none 0 0] 76)) w.heap.size w.heap.size false false none 0 [] [] :=
  ⟨blk_new _ _, ⟨rfl, .inl ⟨rfl, rfl⟩⟩, .nil, Nat.le_refl _⟩
theorem pp_results {tmps : Array Value} {w : World} {v : Value} (h : tmps[4]? = some v) : (results Tryf.f18 tmps).run Tryf.prog w = .ok v w := by
  have h' : tmps[4]?.getD undef = v := by rw [h]; rfl
  simp [results, Tryf.results18, h']
theorem act_lit {a : Act} (h : a.defers = []) : a = { tmps := a.tmps, defers := [] } := by cases a; simp only [Act.mk.injEq, true_and]; exact h

set_option maxRecDepth 1000000 in
set_option maxHeartbeats 4000000 in
theorem parsePat_step (h : Scan w b sao scap zs c s) (h0 : 0 < zs.length) (hl : zs.length ≤ 4194304) (hc : c ≤ zs.length) (ih : PIh b sao scap zs c) {top must : Bool} {r : PR} (hP : PTop zs top c must r) :
    Calls Tryf.prog 18 #[.pointer (some ⟨b, 0, none⟩), .bool top] w (PatPostR w b sao scap zs must r) := by
  have hbw := Lib.hid (blk_lt h.blk)
  have hsrc := Lib.hid (h.srcLt h0)
  have HO := Lib.hid (patO_start w)
  have HS := Lib.hid (h.grownAlloc (.cells #[.bool false, .bool false, .slice none 0 0] 76))
  have HG := Lib.hid (one_alloc (one_refl w (some b)) (.cells #[.bool false, .bool false, .slice none 0 0] 76))
  have IH := Lib.hid ih
  have HP := Lib.hid hP
  clear h ih hP
  rcases HP.out with ⟨htop, h94, hmust, hr⟩ | ⟨h94, hmust, hr⟩
  · subst htop hmust
    have HZ := Lib.hid h94
    have HR := Lib.hid hr
    have hlt : c < zs.length := chr_lt (by rw [h94]; omega)
    clear h94 hr
    go_enter Tryf.func18, Tryf.ntmps18
    go_wp2_with fail
    refine wp_scope_exit 0 rfl (fun _ _ _ h => h) ?_
    go_wp2_with fail
    generalize w.alloc (.cells #[.bool false, .bool false, .slice none 0 0] 76) = w0 at *
    refine (peek_at HS.out h0 HZ.out).mono ?_
    rintro e w1 ⟨rfl, hs1, hg1⟩
    have HO1 := Lib.hid (HO.out.call hg1 hbw.out)
    have HS1 := Lib.hid hs1
    have HG1 := Lib.hid (one_trans HG.out hg1)
    clear hs1 hg1
    go_wp2_with fail
    refine (next_at HS1.out (by omega) HZ.out).mono ?_
    rintro e w2 ⟨rfl, hs2, hg2⟩
    have HO2 := Lib.hid (HO1.out.call hg2 hbw.out)
    have HS2 := Lib.hid hs2
    have HG2 := Lib.hid (one_trans HG1.out hg2)
    have k2 := blk_cell HO2.out.blk 0 _ rfl
    have f2 := blk_free HO2.out.blk 0
    clear hs2 hg2
    go_wp2_with fail
    have HO3 := Lib.hid (HO2.out.setMust true)
    have HS3 := Lib.hid (HS2.out.setFar (B := w.heap.size) (i := 0) (Nat.le_refl _) hbw.out hsrc.out (u := .bool true))
    have HG3 := Lib.hid (one_setCell HG2.out (p := ⟨w.heap.size, 0, none⟩) (.inr (Nat.le_refl _)) (.bool true))
    refine wp_mono (pp_loop rfl hbw.out hsrc.out h0 hl IH.out (cs := c) (c := (c + 1)) (must := true) (r := r) ⟨rfl, rfl, rfl, rfl, rfl⟩ ⟨s, false, none, 0, [], [], HO3.out, HS3.out, HG3.out, HR.out, by simp, by omega, by omega⟩) ?_
    intro e a' w' hq
    cases e with
    | goto n =>
      obtain ⟨rfl, hf, l, tl, cf, s2, ao2, cap2, vs2, rfl, hp2, hs2, hg2⟩ := hq
      refine ⟨rfl, ?_⟩
      obtain ⟨f, -, hfr⟩ := frame_lit a'.tmps hf.sz hf.s0 hf.s1 hf.s5
      have ha := act_lit hf.df
      rw [hfr] at ha
      subst ha
      have HP2 := Lib.hid (patPost_mk rfl hp2 hs2 hg2)
      clear hfr hf hp2 hs2 hg2
      go_wp2_with fail
      go_ret
      exact HP2.out
    | ret =>
      obtain ⟨hf, h4, l, tl, cf, s2, ao2, cap2, vs2, rfl, hp2, hs2, hg2⟩ := hq
      exact bodyPost_ret (pp_results h4) hf.df (patPost_mk rfl hp2 hs2 hg2)
    | normal => exact hq.elim
    | exit id => exact hq.elim
    | panic ch => obtain ⟨hd, hg, p, m, rfl, he⟩ := hq; exact ⟨hd, _, rfl, hg, he⟩
    | outgrown => exact hq.elim
  · subst hmust
    have HR := Lib.hid hr
    have H94 := Lib.hid h94
    clear hr h94
    cases top with
    | false =>
      go_enter Tryf.func18, Tryf.ntmps18
      go_wp2_with fail
      refine wp_scope_exit 0 rfl (fun _ _ _ h => h) ?_
      go_wp2_with fail
      generalize w.alloc (.cells #[.bool false, .bool false, .slice none 0 0] 76) = w0 at *
      refine wp_mono (pp_loop rfl hbw.out hsrc.out h0 hl IH.out (cs := c) (c := c) (must := false) (r := r) ⟨rfl, rfl, rfl, rfl, rfl⟩ ⟨s, false, none, 0, [], [], HO.out, HS.out, HG.out, HR.out, by simp, by omega, by omega⟩) ?_
      intro e a' w' hq
      cases e with
      | goto n =>
        obtain ⟨rfl, hf, l, tl, cf, s2, ao2, cap2, vs2, rfl, hp2, hs2, hg2⟩ := hq
        refine ⟨rfl, ?_⟩
        obtain ⟨f, -, hfr⟩ := frame_lit a'.tmps hf.sz hf.s0 hf.s1 hf.s5
        have ha := act_lit hf.df
        rw [hfr] at ha
        subst ha
        have HP2 := Lib.hid (patPost_mk rfl hp2 hs2 hg2)
        clear hfr hf hp2 hs2 hg2
        go_wp2_with fail
        go_ret
        exact HP2.out
      | ret =>
        obtain ⟨hf, h4, l, tl, cf, s2, ao2, cap2, vs2, rfl, hp2, hs2, hg2⟩ := hq
        exact bodyPost_ret (pp_results h4) hf.df (patPost_mk rfl hp2 hs2 hg2)
      | normal => exact hq.elim
      | exit id => exact hq.elim
      | panic ch => obtain ⟨hd, hg, p, m, rfl, he⟩ := hq; exact ⟨hd, _, rfl, hg, he⟩
      | outgrown => exact hq.elim
    | true =>
      have h94 := H94.out rfl
      obtain ⟨z, hz⟩ : ∃ z, chr zs c = z := ⟨_, rfl⟩
      have HZ := Lib.hid hz
      rw [hz] at h94
      clear hz
      go_enter Tryf.func18, Tryf.ntmps18
      go_wp2_with fail
      refine wp_scope_exit 0 rfl (fun _ _ _ h => h) ?_
      go_wp2_with fail
      generalize w.alloc (.cells #[.bool false, .bool false, .slice none 0 0] 76) = w0 at *
      refine (peek_at HS.out h0 HZ.out).mono ?_
      rintro e w1 ⟨rfl, hs1, hg1⟩
      have HO1 := Lib.hid (HO.out.call hg1 hbw.out)
      have HS1 := Lib.hid hs1
      have HG1 := Lib.hid (one_trans HG.out hg1)
      clear hs1 hg1
      go_wp2_with fail
      refine wp_mono (pp_loop rfl hbw.out hsrc.out h0 hl IH.out (cs := c) (c := c) (must := false) (r := r) ⟨rfl, rfl, rfl, rfl, rfl⟩ ⟨s, false, none, 0, [], [], HO1.out, HS1.out, HG1.out, HR.out, by simp, by omega, by omega⟩) ?_
      intro e a' w' hq
      cases e with
      | goto n =>
        obtain ⟨rfl, hf, l, tl, cf, s2, ao2, cap2, vs2, rfl, hp2, hs2, hg2⟩ := hq
        refine ⟨rfl, ?_⟩
        obtain ⟨f, -, hfr⟩ := frame_lit a'.tmps hf.sz hf.s0 hf.s1 hf.s5
        have ha := act_lit hf.df
        rw [hfr] at ha
        subst ha
        have HP2 := Lib.hid (patPost_mk rfl hp2 hs2 hg2)
        clear hfr hf hp2 hs2 hg2
        go_wp2_with fail
        go_ret
        exact HP2.out
      | ret =>
        obtain ⟨hf, h4, l, tl, cf, s2, ao2, cap2, vs2, rfl, hp2, hs2, hg2⟩ := hq
        exact bodyPost_ret (pp_results h4) hf.df (patPost_mk rfl hp2 hs2 hg2)
      | normal => exact hq.elim
      | exit id => exact hq.elim
      | panic ch => obtain ⟨hd, hg, p, m, rfl, he⟩ := hq; exact ⟨hd, _, rfl, hg, he⟩
      | outgrown => exact hq.elim

theorem parsePat_ind : ∀ (n : Nat) (w : World) (c s : Nat) (r : PR), zs.length - c ≤ n → Scan w b sao scap zs c s → 0 < zs.length → zs.length ≤ 4194304 → c ≤ zs.length → PRun zs false c [] false r →
    Calls Tryf.prog 18 #[.pointer (some ⟨b, 0, none⟩), .bool false] w (PatPostR w b sao scap zs false r) := by
  intro n
  induction n with
  | zero =>
    intro w c s r hn h h0 hl hc hr
    exact parsePat_step h h0 hl hc (fun w' c' s' r' _ h1 h2 _ => by omega) (.inr ⟨(fun h => by cases h), rfl, hr⟩)
  | succ n ihn =>
    intro w c s r hn h h0 hl hc hr
    exact parsePat_step h h0 hl hc (fun w' c' s' r' hs h1 h2 hr' => ihn w' c' s' r' (by omega) hs h0 hl h2 hr') (.inr ⟨(fun h => by cases h), rfl, hr⟩)
/-- The contract of the parser at the top. -/
theorem parsePat_r (h : Scan w b sao scap zs 0 s) (h0 : 0 < zs.length) (hl : zs.length ≤ 4194304) {must : Bool} {r : PR} (hP : PTop zs true 0 must r) :
    Calls Tryf.prog 18 #[.pointer (some ⟨b, 0, none⟩), .bool true] w (PatPostR w b sao scap zs must r) :=
  parsePat_step h h0 hl (Nat.zero_le _) (fun w' c' s' r' hs h1 h2 hr' => parsePat_ind zs.length w' c' s' r' (by omega) hs h0 hl h2 hr') hP
theorem parsePat_any (h : Scan w b sao scap zs 0 s) (h0 : 0 < zs.length) (hl : zs.length ≤ 4194304) {must : Bool} {l : List Pt} {tl : Bool} {cf : Nat} (hP : PTop zs true 0 must (.ok l tl cf)) :
    Calls Tryf.prog 18 #[.pointer (some ⟨b, 0, none⟩), .bool true] w (PatPost w b sao scap zs must tl l cf) :=
  parsePat_r h h0 hl hP
end

end Go.Proofs.YtcfhhcjcnafcjaaFmt
