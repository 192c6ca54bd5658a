/-
  The contract of GetStack, and what it has to do with the laws' own way of counting levels. Conditions as each states.
-/
import Derived.Test.YtjbehcabekkjdaaFmtRaw
import Derived.BigGuardPart
import Derived.Deep.RegionWith
namespace Go.Proofs.YtjbehcabekkjdaaFmt
open Go.RowKit Go.Kit
set_option linter.unusedVariables false
set_option linter.unusedSimpArgs false

/-- The walk down the stack: frames that are left, levels that are left. -/
def stackAt (fs : List Fr) : Nat → Int → Nat × Int
  | 0, l => (0, l)
  | j + 1, l => if 0 < l then stackAt fs j (l - 1 - tailF fs[j]!) else (j + 1, l)
def finSel (fs : List Fr) (r : Nat × Int) : Option Nat := if r.2 = 0 ∧ 0 < r.1 then some (r.1 - 1) else if r.2 < 0 ∧ 0 < fs.length then some 0 else none
/-- The frame at a level. -/
def selO (fs : List Fr) (level : Int) : Option Nat := finSel fs (stackAt fs fs.length level)
theorem stackAt_stop (fs : List Fr) {j : Nat} {l : Int} (h : l ≤ 0) : stackAt fs j l = (j, l) := by
  cases j with
  | zero => rfl
  | succ j => unfold stackAt; rw [if_neg (by omega)]
theorem stackAt_zero (fs : List Fr) (l : Int) : stackAt fs 0 l = (0, l) := rfl
theorem stackAt_step (fs : List Fr) {j : Nat} {l : Int} (h : 0 < l) : stackAt fs (j + 1) l = stackAt fs j (l - 1 - tailF fs[j]!) := by
  conv => lhs; unfold stackAt
  rw [if_pos h]
theorem fin_neg {fs : List Fr} {j : Nat} {x : Int} (h : x < 0) (h0 : 0 < fs.length) : finSel fs (j, x) = some 0 := by
  unfold finSel
  rw [if_neg (fun hh => by have h1 : x = 0 := hh.1; omega), if_pos ⟨h, h0⟩]
theorem fin_zero {fs : List Fr} {j : Nat} {x : Int} (h : x = 0) : finSel fs (j + 1, x) = some j := by
  unfold finSel
  rw [if_pos ⟨h, Nat.succ_pos _⟩]
  rfl
theorem fin_none {fs : List Fr} {x : Int} (h : 0 ≤ x) : finSel fs (0, x) = none := by
  unfold finSel
  rw [if_neg (fun hh => absurd hh.2 (Nat.lt_irrefl _)), if_neg (fun hh => by have h1 : x < 0 := hh.1; omega)]
theorem fin_nil {fs : List Fr} {x : Int} (h : fs.length = 0) : finSel fs (0, x) = none := by
  unfold finSel
  rw [if_neg (fun hh => absurd hh.2 (Nat.lt_irrefl _)), if_neg (fun hh => by have h1 := hh.2; omega)]
/-- The law's own loop. -/
def selLoop (fs : List Fr) (level : Int) : Nat → Int → Int
  | 0, _ => -1
  | j + 1, pos => if level = pos then j else if level < pos + 1 + tailF fs[j]! then 0 else selLoop fs level j (pos + 1 + tailF fs[j]!)
def optI (o : Option Nat) : Int := match o with | some k => (k : Int) | none => -1
theorem selLoop_is (fs : List Fr) (level : Int) : ∀ (j : Nat) (pos : Int), j ≤ fs.length → pos ≤ level → selLoop fs level j pos = optI (finSel fs (stackAt fs j (level - pos)))
  | 0, pos, _, h => by
    rw [stackAt_zero, fin_none (by omega)]
    rfl
  | j + 1, pos, hj, h => by
    unfold selLoop
    by_cases h1 : level = pos
    · rw [if_pos h1, stackAt_stop fs (by omega), fin_zero (by omega)]
      rfl
    · rw [if_neg h1, stackAt_step fs (by omega)]
      by_cases h2 : level < pos + 1 + tailF fs[j]!
      · rw [if_pos h2, stackAt_stop fs (by omega), fin_neg (by omega) (by omega)]
        rfl
      · rw [if_neg h2, selLoop_is fs level j _ (by omega) (by omega)]
        rw [show level - (pos + 1 + tailF fs[j]!) = level - pos - 1 - tailF fs[j]! by omega]
theorem selO_neg {fs : List Fr} {level : Int} (h : level < 0) (h0 : 0 < fs.length) : selO fs level = some 0 := by
  unfold selO
  rw [stackAt_stop fs (by omega), fin_neg h h0]
theorem selO_nil {fs : List Fr} (level : Int) (h0 : fs.length = 0) : selO fs level = none := by
  unfold selO
  rw [h0, stackAt_zero, fin_nil h0]
theorem selO_lt {fs : List Fr} {level : Int} {k : Nat} (h : selO fs level = some k) : k < fs.length := by
  have hb : ∀ (j : Nat) (l : Int), (stackAt fs j l).1 ≤ j := by
    intro j
    induction j with
    | zero => intro l; exact Nat.le_refl _
    | succ j ih =>
      intro l
      unfold stackAt
      split
      · exact Nat.le_succ_of_le (ih _)
      · exact Nat.le_refl _
  have := hb fs.length level
  unfold selO finSel at h
  split at h
  · injection h with h; omega
  · split at h
    · injection h with h; omega
    · cases h
/-- What GetStack gives: a debug record and whether there is one. -/
def GetPost (w : World) (g : Nat) (o : Option Nat) (e : Ending) (w' : World) : Prop :=
  ∃ d, e = .returned (.tuple #[.pointer (some ⟨d, 0, none⟩), .bool o.isSome]) ∧ w'.cell? ⟨d, 0, none⟩ = some (.pointer (o.map fun k => (⟨g, k * 10, none⟩ : Addr))) ∧ Below w.heap.size w w'
@[go_sem] theorem m_sp (n : Nat) (a : Option Addr) (w : World) : (method (n + 1) 27 (.pointer a) "Sp").run Tryf.prog w = .ok (68, .pointer a) w := by kernel_rfl
@[go_sem] theorem m_at (n : Nat) (a : Option Addr) (w : World) : (method (n + 1) 27 (.pointer a) "At").run Tryf.prog w = .ok (30, .pointer a) w := by kernel_rfl
theorem sp_any {w : World} {c g N n : Nat} {F : Nat → Option Addr × Option Addr × Int} (h : StackO w c g N n F) : Calls Tryf.prog 68 #[.pointer (some ⟨c, 0, none⟩)] w fun e w' => e = .returned (.int .i64 n) ∧ w = w' := by
  have k1 := h.c1
  clear h
  go_enter Tryf.func68, Tryf.ntmps68
  go_wp2_with fail
  go_ret
  exact ⟨rfl, rfl⟩
set_option maxRecDepth 100000 in
set_option maxHeartbeats 2000000 in
theorem get_any {w : World} {B l c g : Nat} {fs : List Fr} {src : ByteArray} {ld : Int} {child : Bool} (h : Built w B l c g fs src ld child) (level : Int) (hlo : -9223372036854775808 ≤ level) (hhi : level ≤ 9223372036854775807) (ht : ∀ i, i < fs.length → 0 ≤ tailF fs[i]! ∧ tailF fs[i]! ≤ 65536) :
    Calls Tryf.prog 37 #[.pointer (some ⟨l, 0, none⟩), .int .i64 level] w (GetPost w g (selO fs level)) := by
  have H := Lib.hid h
  have HT := Lib.hid ht
  obtain ⟨pl, hl, -⟩ := h.ls
  have k16 : w.cell? ⟨l, 16, none⟩ = some (.pointer (parentOf g fs.length)) := blk_cell hl 16 _ rfl
  have k14 : w.cell? ⟨l, 14, none⟩ = some (.iface 27 (.pointer (some ⟨c, 0, none⟩))) := blk_cell hl 14 _ rfl
  obtain ⟨F, hst, -⟩ := h.st
  have HST := Lib.hid hst
  clear h ht hl hst
  obtain ⟨R, hR⟩ : ∃ R, selO fs level = R := ⟨_, rfl⟩
  rw [hR]
  have HR := Lib.hid hR
  clear hR
  generalize hpp : parentOf g fs.length = pp at *
  have HPP := Lib.hid hpp
  clear hpp
  go_enter Tryf.func37, Tryf.ntmps37
  go_wp2_with fail
  go_loop [1, 6] (fun v1 v6 => ∃ (j : Nat) (x : Int), j ≤ fs.length ∧ v1 = .int .i64 x ∧ v6 = .pointer (parentOf g j) ∧ Hid (finSel fs (stackAt fs j x) = R) ∧ -9223372036854775808 ≤ x ∧ x ≤ 9223372036854775807) (fun v1 _ => (intOf v1).toNat)
  case atStart => exact ⟨fs.length, level, Nat.le_refl _, rfl, by rw [HPP.out], HR, hlo, hhi⟩
  case round =>
    obtain ⟨j, x, hj, rfl, rfl, HS, hx0, hx1⟩ := hrel
    by_cases hp : 0 < x
    · cases j with
      | zero =>
        have hRN : R = none := by have := HS.out; rw [stackAt_zero, fin_none (by omega)] at this; exact this.symm
        subst hRN
        have e0 : parentOf g 0 = none := rfl
        rw [e0]
        have t1 : decide (0 < x) = true := decide_eq_true hp
        have t2 : (x == 0) = false := by simp; omega
        have t3 : decide (x < 0) = false := decide_eq_false (by omega)
        go_wp2_with fail
        go_ret2
        exact ⟨_, rfl, blk_cell (blk_new _ _) 0 _ rfl, (Below.refl _ _).alloc (Nat.le_refl _) _⟩
      | succ j =>
        have hfr := frameR_of H.out (k := j) (by omega)
        obtain ⟨p, a1, a2, -⟩ := hfr.fn
        have a3 := hfr.par
        have a4 := hfr.tail
        have htl := HT.out j (by omega)
        obtain ⟨tl, htt⟩ : ∃ tl, tailF fs[j]! = tl := ⟨_, rfl⟩
        have HS2 : Hid (finSel fs (stackAt fs j (x - 1 - tl)) = R) := Lib.hid (by rw [← htt, ← stackAt_step fs hp]; exact HS.out)
        rw [htt] at a4 htl
        have htl0 := htl.1
        have htl1 := htl.2
        obtain ⟨fg, hfg⟩ : ∃ b, fs[j]!.g = b := ⟨_, rfl⟩
        rw [hfg] at a2
        have hz : fg = true → tl = 0 := fun e => by rw [← htt]; unfold tailF; rw [hfg, e]; rfl
        rw [parent_succ]
        have t1 : decide (0 < x) = true := decide_eq_true hp
        generalize hq : parentOf g j = q at *
        have HQ := Lib.hid hq
        clear hq htt hfg hfr htl
        cases fg with
        | true =>
          have htz := hz rfl
          subst htz
          clear hz
          go_wp2_with fail
          go_round
          case rel => exact ⟨j, x - 1, by omega, rfl, by rw [HQ.out], by simpa using HS2, by omega, by omega⟩
          case measure => simp [intOf]; omega
        | false =>
          clear hz
          go_wp2_with fail
          go_round
          case rel => exact ⟨j, x - 1 - tl, by omega, rfl, by rw [HQ.out], HS2, by omega, by omega⟩
          case measure => simp [intOf]; omega
    · have t1 : decide (0 < x) = false := decide_eq_false hp
      have hS : finSel fs (j, x) = R := by have := HS.out; rwa [stackAt_stop fs (by omega)] at this
      by_cases hx : x = 0
      · subst hx
        cases j with
        | zero =>
          have hRN : R = none := by rw [fin_none (by omega)] at hS; exact hS.symm
          subst hRN
          have e0 : parentOf g 0 = none := rfl
          rw [e0]
          clear hS
          go_wp2_with fail
          go_ret2
          exact ⟨_, rfl, blk_cell (blk_new _ _) 0 _ rfl, (Below.refl _ _).alloc (Nat.le_refl _) _⟩
        | succ j =>
          have hRN : R = some j := by rw [fin_zero rfl] at hS; exact hS.symm
          subst hRN
          rw [parent_succ]
          clear hS
          go_wp2_with fail
          go_ret2
          exact ⟨_, rfl, blk_cell (blk_new _ _) 0 _ rfl, (Below.refl _ _).alloc (Nat.le_refl _) _⟩
      · have t2 : (x == 0) = false := by simp [hx]
        have t3 : decide (x < 0) = true := decide_eq_true (by omega)
        by_cases hn : 0 < fs.length
        · have hRN : R = some 0 := by rw [fin_neg (by omega) hn] at hS; exact hS.symm
          subst hRN
          have t4 : decide (0 < fs.length) = true := decide_eq_true hn
          clear hS hx
          go_wp2_with (first | (go_at_call 68; refine (sp_any HST.out).mono ?_; rintro e w' ⟨rfl, rfl⟩) | (go_at_call 30; refine (at_any HST.out 0 hn).mono ?_; rintro e w' ⟨rfl, rfl⟩))
          go_ret2
          exact ⟨_, rfl, blk_cell (blk_new _ _) 0 _ rfl, (Below.refl _ _).alloc (Nat.le_refl _) _⟩
        · have hj0 : j = 0 := by omega
          subst hj0
          have hRN : R = none := by rw [fin_nil (by omega)] at hS; exact hS.symm
          subst hRN
          have t4 : decide (0 < fs.length) = false := decide_eq_false hn
          clear hS hx
          have HN := Lib.hid hn
          clear hn
          go_wp2_with (go_at_call 68; refine (sp_any HST.out).mono ?_; rintro e w' ⟨rfl, rfl⟩)
          go_ret2
          exact ⟨_, rfl, blk_cell (blk_new _ _) 0 _ rfl, (Below.refl _ _).alloc (Nat.le_refl _) _⟩
end Go.Proofs.YtjbehcabekkjdaaFmt
