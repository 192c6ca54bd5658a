/-
  The contracts of where, Where, zzWhereText and zzSelect. Conditions as each states.
-/
import Derived.Test.YtjbehcabekkjdaaFmtGet
import Derived.Test.YtjbehcabekkjdaaFmtItoa
namespace Go.Proofs.YtjbehcabekkjdaaFmt
open Go.RowKit Go.Kit
open Go.Extern.Stop Go.Stop Go.Extern
set_option linter.unusedVariables false
set_option linter.unusedSimpArgs false

/-- What is said of a frame's place. -/
def whereT (f : Fr) (src : ByteArray) : ByteArray := if f.g then ⟨#[91, 71, 93, 58]⟩ else src ++ ⟨#[58]⟩ ++ ⟨(Lib.itoa f.line).toArray⟩ ++ ⟨#[58]⟩
def whereO (fs : List Fr) (src : ByteArray) (o : Option Nat) : ByteArray := match o with | some k => whereT fs[k]! src | none => ⟨#[]⟩
theorem itoa_size {n : Int} (h0 : -9223372036854775808 ≤ n) (h1 : n ≤ 9223372036854775807) : (⟨(Lib.itoa n).toArray⟩ : ByteArray).size ≤ 21 := by
  show (Lib.itoa n).toArray.size ≤ 21
  have := Lib.itoa_length_le n h0 h1
  simpa using this
set_option maxHeartbeats 1000000 in
theorem text_any (a : Option Addr) (cap : Nat) (fs : List Fr) (k : Nat) (src : ByteArray) (w : World) (h : FrsAt w a fs) (hk : k < fs.length) (hw : (Lit.int .i64 fs[k]!.line).wf = true) (hs : src.size ≤ 1048576) :
    Calls Tryf.prog 16 #[.slice a fs.length cap, .int .i64 k, .string src] w (StrPost w (whereT fs[k]! src)) := by
  obtain ⟨b, off, rfl, hbl, hc⟩ := h (by omega)
  obtain ⟨h0, h1, h2, h3, h4⟩ := hc k hk
  obtain ⟨⟨fg, fl, ft, nm, fc⟩, hfe⟩ : ∃ f, fs[k]! = f := ⟨_, rfl⟩
  rw [hfe] at h0 h1 hw ⊢
  simp only at h0 h1 hw
  have hb := bounds_i64 hw
  have hb0 := hb.1
  have hb1 := hb.2
  have his := itoa_size hb0 hb1
  clear h2 h3 h4 h hc hfe hw hb
  have h5 : (k : Int) < (fs.length : Int) := by omega
  cases fg with
  | true =>
    go_enter Tryf.func16, Tryf.ntmps16
    go_wp2_with fail
    go_ret
    exact ⟨rfl, Below.refl _ _⟩
  | false =>
    have e1 : (src ++ ⟨#[58]⟩ : ByteArray).size = src.size + 1 := ByteArray.size_append
    go_enter Tryf.func16, Tryf.ntmps16
    go_wp2_with fail
    refine (itoa_any fl hb0 hb1 w).mono ?_
    rintro e w1 ⟨rfl, hb⟩
    have HB := Lib.hid hb
    have hr : whereT ⟨false, fl, ft, nm, fc⟩ src = src ++ ⟨#[58]⟩ ++ ⟨(Lib.itoa fl).toArray⟩ ++ ⟨#[58]⟩ := rfl
    have HR := Lib.hid hr
    clear hb hr
    generalize (⟨(Lib.itoa fl).toArray⟩ : ByteArray) = it at *
    have e2 : (src ++ ⟨#[58]⟩ ++ it : ByteArray).size = src.size + 1 + it.size := by rw [ByteArray.size_append, e1]
    go_wp2_with fail
    go_ret
    exact ⟨by rw [HR.out]; rfl, HB.out⟩
def IntPost (w : World) (z : Int) (e : Ending) (w' : World) : Prop := e = .returned (.int .i64 z) ∧ Below w.heap.size w w'
set_option maxHeartbeats 2000000 in
theorem select_any (a : Option Addr) (cap : Nat) (fs : List Fr) (level : Int) (w : World) (h : FrsAt w a fs) (hl : fs.length ≤ 4096) (ht : ∀ i, i < fs.length → 0 ≤ tailF fs[i]! ∧ tailF fs[i]! ≤ 65536) :
    Calls Tryf.prog 15 #[.slice a fs.length cap, .int .i64 level] w (IntPost w (optI (selO fs level))) := by
  have HF := Lib.hid h
  have HT := Lib.hid ht
  clear h ht
  by_cases h0 : fs.length = 0
  · have hR : optI (selO fs level) = -1 := by rw [selO_nil level h0]; rfl
    rw [hR]
    obtain ⟨n, hn⟩ : ∃ n, fs.length = n := ⟨_, rfl⟩
    rw [hn] at h0 ⊢
    subst h0
    go_enter Tryf.func15, Tryf.ntmps15
    go_wp2_with fail
    go_ret
    exact ⟨rfl, Below.refl _ _⟩
  · have t0 : ((fs.length : Int) == 0) = false := beq_eq_false_iff_ne.2 (by omega)
    have tn : (fs.length == 0) = false := beq_eq_false_iff_ne.2 (by omega)
    have hp : 0 < fs.length := by omega
    have HH := Lib.hid h0
    clear h0
    by_cases hneg : level < 0
    · have hR : optI (selO fs level) = 0 := by rw [selO_neg hneg hp]; rfl
      rw [hR]
      go_enter Tryf.func15, Tryf.ntmps15
      go_wp2_with fail
      go_ret
      exact ⟨rfl, Below.refl _ _⟩
    · obtain ⟨R, hR⟩ : ∃ R, optI (selO fs level) = R := ⟨_, rfl⟩
      have hS : selLoop fs level fs.length 0 = R := by rw [selLoop_is fs level fs.length 0 (Nat.le_refl _) (by omega), ← hR, Int.sub_zero]; rfl
      rw [hR]
      have HS := Lib.hid hS
      clear hS hR
      go_enter Tryf.func15, Tryf.ntmps15
      go_wp2_with fail
      go_loopw [6, 7] (fun v6 v7 wr => ∃ (j : Nat) (pos : Int), j ≤ fs.length ∧ v7 = .int .i64 ((j : Int) - 1) ∧ v6 = .int .i64 pos ∧ 0 ≤ pos ∧ pos ≤ ((fs.length - j : Nat) : Int) * 65537 ∧ Hid (selLoop fs level j pos = R) ∧ Hid (Below w.heap.size w wr)) (fun _ v7 _ => (intOf v7 + 1).toNat)
      case atStart => exact ⟨fs.length, 0, Nat.le_refl _, rfl, rfl, by omega, by omega, HS, Lib.hid (Below.refl _ _)⟩
      case round =>
        obtain ⟨j, pos, hj, rfl, rfl, hp0, hp1, HS1, HB⟩ := hrel
        cases j with
        | zero =>
          have hR : R = -1 := by have := HS1.out; unfold selLoop at this; exact this.symm
          subst hR
          have e0 : (((0 : Nat) : Int) - 1) = -1 := rfl
          rw [e0]
          go_wp2_with fail
          go_ret
          exact ⟨rfl, HB.out⟩
        | succ j =>
          have e1 : (((j + 1 : Nat) : Int) - 1) = (j : Int) := by omega
          rw [e1]
          obtain ⟨b, off, rfl, hbl, hc⟩ := HF.out.below HB.out (Nat.le_refl _) (by omega)
          obtain ⟨c0, c1, c2, c3, c4⟩ := hc j (by omega)
          obtain ⟨tl, htt⟩ : ∃ tl, tailF fs[j]! = tl := ⟨_, rfl⟩
          have htl := HT.out j (by omega)
          rw [htt] at htl
          have htl0 := htl.1
          have htl1 := htl.2
          have hS2 : (if level = pos then (j : Int) else if level < pos + 1 + tl then 0 else selLoop fs level j (pos + 1 + tl)) = R := by have := HS1.out; unfold selLoop at this; rwa [htt] at this
          obtain ⟨⟨fg, fl, ft, nm, fc⟩, hfe⟩ : ∃ f, fs[j]! = f := ⟨_, rfl⟩
          rw [hfe] at c0 c1 c2 c3 c4 htt
          simp only at c0 c1 c2 c3 c4
          have HTT := Lib.hid htt
          have h5 : (j : Int) < (fs.length : Int) := by omega
          have hp2 : pos ≤ 268500992 := by omega
          clear hc hfe htt htl hbl e1
          by_cases hq : level = pos
          · have hR : R = (j : Int) := by rw [← hS2, if_pos hq]
            have tq : (level == pos) = true := by simp [hq]
            subst hR
            clear hS2 hq
            go_wp2_with fail
            go_ret
            exact ⟨rfl, HB.out⟩
          · have tq : (level == pos) = false := by simp [hq]
            rw [if_neg hq] at hS2
            clear hq
            go_wp2_with fail
            refine (tail_is ⟨fg, fl, ft, nm, fc⟩ wr HTT.out).mono ?_
            rintro e w3 ⟨rfl, hw3⟩
            have HB3 : Hid (Below w.heap.size w w3) := Lib.hid (by rw [hw3]; exact HB.out.alloc HB.out.size _)
            clear hw3
            by_cases hlt : level < pos + 1 + tl
            · have hR : R = 0 := by rw [← hS2, if_pos hlt]
              have t3 : decide (level < pos + 1 + tl) = true := decide_eq_true hlt
              subst hR
              clear hS2
              go_wp2_with fail
              go_ret
              exact ⟨rfl, HB3.out⟩
            · have t3 : decide (level < pos + 1 + tl) = false := decide_eq_false hlt
              rw [if_neg hlt] at hS2
              have HS2 := Lib.hid hS2
              clear hS2
              go_wp2_with fail
              go_roundw
              case rel => exact ⟨j, pos + 1 + tl, by omega, rfl, rfl, by omega, by omega, HS2, HB3⟩
              case measure => simp [intOf]
/-- What where reads of the frame that it names. -/
structure PlaceR (w : World) (g o : Nat) (f : Fr) (src : ByteArray) : Prop where
  fn : ∃ p, w.cell? ⟨g, o + 1, none⟩ = some (.pointer (some ⟨p, 0, none⟩)) ∧ (f.g = true → w.cell? ⟨p, 2, none⟩ = some (.pointer none)) ∧ (f.g = false → ∃ q l, w.cell? ⟨p, 2, none⟩ = some (.pointer (some ⟨q, 0, none⟩)) ∧ w.cell? ⟨q, 0, none⟩ = some (.string src) ∧ w.cell? ⟨q, 10, none⟩ = some (.slice (some ⟨l, 0, none⟩) 1 1) ∧ w.cell? ⟨l, 0, none⟩ = some (.int .i64 f.line))
  pc : w.cell? ⟨g, o + 3, none⟩ = some (.int .i64 1)
theorem placeR_of {w : World} {B l c g k : Nat} {fs : List Fr} {src : ByteArray} {ld : Int} {child : Bool} (h : Built w B l c g fs src ld child) (hk : k < fs.length) : PlaceR w g (k * 10) fs[k]! src := by
  obtain ⟨F, h1, h2⟩ := h.st
  obtain ⟨p, a1, a2⟩ := h2 k hk
  obtain ⟨f1, f2, f3, f4⟩ := h1.fr k hk
  rw [a1] at f1
  obtain ⟨b1, b2, b3, b4, b5⟩ := a2
  refine ⟨⟨p, f1, b4, fun hg => ?_⟩, f3⟩
  obtain ⟨q, l', ao, cap, d1, d2, d3, d4, d5, d6, d7, d8, d9, _⟩ := b5 hg
  exact ⟨q, l', d5, d6, d8, d9⟩
theorem text_where (src : ByteArray) (ln : Int) : (⟨(text1 src.data.toList (text2 ln)).toArray⟩ : ByteArray) = src ++ ⟨#[58]⟩ ++ ⟨(Lib.itoa ln).toArray⟩ ++ ⟨#[58]⟩ := by
  apply ByteArray.ext
  apply Array.ext'
  simp [text1, text2]
set_option maxRecDepth 100000 in
set_option maxHeartbeats 2000000 in
theorem where_any (G : Interp) {w : World} {B l c g : Nat} {fs : List Fr} {src : ByteArray} {ld : Int} {child : Bool} (h : Built w B l c g fs src ld child) (level : Int) (hlo : -9223372036854775808 ≤ level) (hhi : level ≤ 9223372036854775807) (ht : ∀ i, i < fs.length → 0 ≤ tailF fs[i]! ∧ tailF fs[i]! ≤ 65536)
    (hw : ∀ i, i < fs.length → (Lit.int .i64 fs[i]!.line).wf = true) (hF : G.told.answers w.tape) (hs : src.size ≤ 1048576) :
    Calls Tryf.prog 31 #[.pointer (some ⟨l, 0, none⟩), .int .i64 level, .bool false] w (StrPost w (whereO fs src (selO fs level))) := by
  have H := Lib.hid h
  have HG := Lib.hid (get_any h level hlo hhi ht)
  have HW := Lib.hid hw
  have HFF := Lib.hid hF
  clear h ht hw hF hlo hhi
  cases hsel : selO fs level with
  | none =>
    have HSE := Lib.hid hsel
    clear hsel
    go_enter Tryf.func31, Tryf.ntmps31
    go_wp2_with fail
    refine HG.out.mono ?_
    rw [HSE.out]
    rintro e w1 ⟨d, rfl, hd, hb⟩
    have HB := Lib.hid hb
    clear hd hb
    go_wp2_with fail
    go_ret
    exact ⟨rfl, HB.out⟩
  | some k =>
    have hk := selO_lt hsel
    have HSE := Lib.hid hsel
    clear hsel
    obtain ⟨R, hRR⟩ : ∃ R, whereO fs src (some k) = R := ⟨_, rfl⟩
    rw [hRR]
    have HRR := Lib.hid hRR
    clear hRR
    go_enter Tryf.func31, Tryf.ntmps31
    go_wp2_with fail
    refine HG.out.mono ?_
    rw [HSE.out]
    rintro e w1 ⟨d, rfl, hd, hb⟩
    have HB := Lib.hid hb
    have hpl := placeR_of (H.out.kept hb) hk
    obtain ⟨p, a1, a2, a3⟩ := hpl.fn
    have a4 := hpl.pc
    have hwk := HW.out k hk
    have hFF := HFF.out
    rw [← hb.tape] at hFF
    have HFW := Lib.hid hFF
    have hF' := answers_open hFF
    simp only [Option.map_some] at hd
    obtain ⟨f, hfe⟩ : ∃ f, fs[k]! = f := ⟨_, rfl⟩
    have HR0 : Hid (R = whereT f src) := Lib.hid (by rw [← HRR.out]; unfold whereO; simp only; rw [hfe])
    rw [hfe] at a2 a3 hwk
    obtain ⟨fg, fl, ft, nm, fc⟩ := f
    simp only at a2 a3 hwk
    have HWK := Lib.hid hwk
    clear hb hpl hfe hFF hwk
    cases fg with
    | true =>
      have a5 := a2 rfl
      clear a2 a3
      have hT := told1 G [91, 71, 93] [] (by simp) (by simp)
      have HT := Lib.hid hT
      clear hT
      go_wp2_with fail
      go_ret
      refine ⟨?_, HB.out.trans (Below.mono (by repeat (first | exact Below.refl _ _ | apply Below.drew | exact below_drewN (Below.alloc (Below.refl _ _) (Nat.le_refl _) _) 1 | refine Below.alloc ?_ (by simp) _)) HB.out.size)⟩
      have := HT.out
      unfold read1 at this
      simp only [this]
      rw [HR0.out]
      rfl
    | false =>
      obtain ⟨q, l', b1, b2, b3, b4⟩ := a3 rfl
      clear a2 a3
      have hT2 := told2 G fl HWK.out
      have HT2 := Lib.hid hT2
      clear hT2
      have hlen : (text2 fl).length ≤ 22 := by
        have := FmtText.itoa_length_le HWK.out
        simp only [text2, List.length_append, List.length_singleton]; omega
      have hT1 := told1 G src.data.toList (text2 fl) (by simp; omega) (by omega)
      have HT1 := Lib.hid hT1
      clear hT1 hlen
      go_wp2_with fail
      have z1 : IntKind.i64.wrap (1 - 1) = 0 := by rfl
      have z2 : IntKind.i64.wrap 0 = 0 := by rfl
      go_still_tail 12, (by kernel_rfl)
      change wpList _ _ _ _ _ w1.drew
      go_upto_region 14 with (fail)
      have hx := HT2.out
      unfold read2 at hx
      rw [hx]
      clear hx
      go_wp2_with fail
      go_ret
      refine ⟨?_, HB.out.trans (Below.mono (by repeat (first | exact Below.refl _ _ | apply Below.drew | exact below_drewN (Below.alloc (Below.refl _ _) (Nat.le_refl _) _) 1 | refine Below.alloc ?_ (by simp) _)) HB.out.size)⟩
      have := HT1.out
      unfold read1 at this
      simp only [this, text_where]
      rw [HR0.out]
      rfl
theorem whereM_any (G : Interp) {w : World} {B l c g : Nat} {fs : List Fr} {src : ByteArray} {ld : Int} {child : Bool} (h : Built w B l c g fs src ld child) (level : Int) (hlo : -9223372036854775808 ≤ level) (hhi : level ≤ 9223372036854775807) (ht : ∀ i, i < fs.length → 0 ≤ tailF fs[i]! ∧ tailF fs[i]! ≤ 65536)
    (hw : ∀ i, i < fs.length → (Lit.int .i64 fs[i]!.line).wf = true) (hF : G.told.answers w.tape) (hs : src.size ≤ 1048576) :
    Calls Tryf.prog 14 #[.pointer (some ⟨l, 0, none⟩), .int .i64 level] w (StrPost w (whereO fs src (selO fs level))) := by
  have HC := Lib.hid (where_any G h level hlo hhi ht hw hF hs)
  clear h hF hw ht
  generalize whereO fs src (selO fs level) = s at *
  go_enter Tryf.func14, Tryf.ntmps14
  go_wp2_with fail
  refine HC.out.mono ?_
  rintro e w1 ⟨rfl, hb⟩
  have HB := Lib.hid hb
  clear hb
  go_wp2_with fail
  go_ret
  exact ⟨rfl, HB.out⟩
end Go.Proofs.YtjbehcabekkjdaaFmt
