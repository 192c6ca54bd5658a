/-
  The contract of frameFuncName. Its condition: a stack and a state as zzBuild lays them; the source's name has at most 2^20 bytes.
-/
import Derived.Test.YtjbehcabekkjdaaFmtZBuild
import Derived.Test.YtjbehcabekkjdaaFmtFmt
import Derived.RegionTactic
import Derived.BigRegion
import Derived.Deep.RegionWith
import Derived.LaidEqlPtr
import Derived.WalkSpells
import Derived.Outline
namespace Go.Proofs.YtjbehcabekkjdaaFmt
open Go.RowKit Go.Kit
open Go.Extern.Stop Go.Stop Go.Extern
set_option linter.unusedVariables false
set_option linter.unusedSimpArgs false

def posText (src : ByteArray) (ld : Int) : ByteArray := ⟨(text0 src.data.toList ld).toArray⟩
/-- The name that a match among the recorded calls gives. -/
def hitName (f : Fr) (nm src : ByteArray) (ld : Int) : ByteArray := if (nm.toList = [63] ∨ 0 < tailF f) ∧ f.g = false then posText src ld else nm
def missName (f : Fr) (src : ByteArray) (ld : Int) : ByteArray := if f.g = false then posText src ld else ⟨#[40, 97, 110, 111, 110, 121, 109, 111, 117, 115, 41]⟩
/-- A frame's name and whether it is a chunk's. -/
def nameAt (par : Option (Bool × List (ByteArray × Int))) (f : Fr) (src : ByteArray) (ld : Int) (child : Bool) : ByteArray × Bool :=
  match par with
  | none => (if child then ⟨#[99, 111, 114, 111, 117, 110, 116, 105, 110, 101]⟩ else ⟨#[109, 97, 105, 110, 32, 99, 104, 117, 110, 107]⟩, true)
  | some (pg, cs) => if pg then (missName f src ld, false) else match cs.find? (fun c => c.2 == 0) with
    | some c => (hitName f c.1 src ld, false)
    | none => (missName f src ld, false)
def NamePost (w : World) (r : ByteArray × Bool) (e : Ending) (w' : World) : Prop := e = .returned (.tuple #[.string r.1, .bool r.2]) ∧ Below w.heap.size w w'
/-- What frameFuncName reads of a frame at place a: its function's cells, its tail calls. -/
structure FrameR (w : World) (g o : Nat) (par : Option Addr) (f : Fr) (src : ByteArray) (ld : Int) : Prop where
  fn : ∃ p, w.cell? ⟨g, o + 1, none⟩ = some (.pointer (some ⟨p, 0, none⟩)) ∧ w.cell? ⟨p, 0, none⟩ = some (.bool f.g) ∧ (f.g = false → ∃ q, w.cell? ⟨p, 2, none⟩ = some (.pointer (some ⟨q, 0, none⟩)) ∧ w.cell? ⟨q, 0, none⟩ = some (.string src) ∧ w.cell? ⟨q, 1, none⟩ = some (.int .i64 ld))
  par : w.cell? ⟨g, o + 2, none⟩ = some (.pointer par)
  tail : w.cell? ⟨g, o + 9, none⟩ = some (.int .i64 (tailF f))
theorem FrameR.drew {w : World} {g o : Nat} {par : Option Addr} {f : Fr} {src : ByteArray} {ld : Int} (h : FrameR w g o par f src ld) : FrameR w.drew g o par f src ld := ⟨h.fn, h.par, h.tail⟩
theorem FrameR.below {w w' : World} {g o : Nat} {par : Option Addr} {f : Fr} {src : ByteArray} {ld : Int} (h : FrameR w g o par f src ld) (hb : Below w.heap.size w w') : FrameR w' g o par f src ld := by
  have k : ∀ b i v, w.cell? ⟨b, i, none⟩ = some v → w'.cell? ⟨b, i, none⟩ = some v := fun b i v h => (hb.cell (lt_of_cell h)).trans h
  obtain ⟨p, h1, h2, h3⟩ := h.fn
  refine ⟨⟨p, k _ _ _ h1, k _ _ _ h2, fun hg => ?_⟩, k _ _ _ h.par, k _ _ _ h.tail⟩
  obtain ⟨q, a1, a2, a3⟩ := h3 hg
  exact ⟨q, k _ _ _ a1, k _ _ _ a2, k _ _ _ a3⟩
/-- What it reads of the frame below. -/
structure ParentR (w : World) (g o : Nat) (pg : Bool) (cs : List (ByteArray × Int)) : Prop where
  fn : ∃ p, w.cell? ⟨g, o + 1, none⟩ = some (.pointer (some ⟨p, 0, none⟩)) ∧ w.cell? ⟨p, 0, none⟩ = some (.bool pg) ∧ (pg = false → ∃ q ao cap, w.cell? ⟨p, 2, none⟩ = some (.pointer (some ⟨q, 0, none⟩)) ∧ w.cell? ⟨q, 12, none⟩ = some (.slice ao cs.length cap) ∧ CallsAt w 0 ao cs)
  pc : w.cell? ⟨g, o + 3, none⟩ = some (.int .i64 1)

section
variable (G : Interp) {w : World} {l g o : Nat} {f : Fr} {src : ByteArray} {ld : Int}
set_option maxRecDepth 100000 in
set_option maxHeartbeats 1000000 in
theorem name_bottom (child : Bool) {pl : Option Addr} {c : Nat} {pc : Option Addr} (hl : w.heap[l]? = some (.cells (lsCells pl c pc) 62 (0, 0))) (hp : pl.isNone = !child) (h : FrameR w g o none f src ld) :
    Calls Tryf.prog 36 #[.pointer (some ⟨l, 0, none⟩), .pointer (some ⟨g, o, none⟩)] w (NamePost w (nameAt none f src ld child)) := by
  have k1 : w.cell? ⟨l, 1, none⟩ = some (.pointer pl) := blk_cell hl 1 _ rfl
  have k2 := h.par
  clear h hl
  cases child with
  | true =>
    obtain ⟨x, rfl⟩ : ∃ x, pl = some x := by cases pl with | none => simp at hp | some x => exact ⟨x, rfl⟩
    clear hp
    go_enter Tryf.func36, Tryf.ntmps36
    go_wp2_with fail
    go_ret2
    exact ⟨rfl, Below.refl _ _⟩
  | false =>
    obtain rfl : pl = none := by cases pl with | none => rfl | some x => simp at hp
    clear hp
    go_enter Tryf.func36, Tryf.ntmps36
    go_wp2_with fail
    go_ret2
    exact ⟨rfl, Below.refl _ _⟩
theorem told_pos (src : ByteArray) (hs : src.size ≤ 1048576) (hw : (Lit.int .i64 ld).wf = true) : FmtStop.textOf (G.told "fmt.Sprintf" (read0 src.data.toList ld) 0) = posText src ld := told0 G src.data.toList ld (by simp; omega) hw
set_option maxRecDepth 100000 in
set_option maxHeartbeats 2000000 in
theorem name_miss {pg : Bool} {cs : List (ByteArray × Int)} {po : Nat} (hF : G.told.answers w.tape) (h : FrameR w g o (some ⟨g, po, none⟩) f src ld) (hp : ParentR w g po pg cs) (hg : pg = true) (hs : src.size ≤ 1048576) (hw : (Lit.int .i64 ld).wf = true) :
    Calls Tryf.prog 36 #[.pointer (some ⟨l, 0, none⟩), .pointer (some ⟨g, o, none⟩)] w (NamePost w (missName f src ld, false)) := by
  subst hg
  have k2 := h.par
  obtain ⟨p, a1, a2, a3⟩ := h.fn
  obtain ⟨pp, b1, b2, -⟩ := hp.fn
  have HT := Lib.hid (told_pos G src hs hw)
  have hF' := answers_open hF
  unfold missName
  obtain ⟨fg, fl, ft, nm, fc⟩ := f
  simp only at a2 a3 ⊢
  clear h hp hw
  cases fg with
  | true =>
    clear a3
    go_enter Tryf.func36, Tryf.ntmps36
    go_wp2_with fail
    go_ret2
    exact ⟨rfl, Below.refl _ _⟩
  | false =>
    obtain ⟨q, c1, c2, c3⟩ := a3 rfl
    go_enter Tryf.func36, Tryf.ntmps36
    go_wp2_with fail
    go_still_tail 22, (by kernel_rfl)
    change wpList _ _ _ _ _ w.drew
    go_wp2_with fail
    go_ret2
    refine ⟨?_, by repeat (first | exact Below.refl _ _ | apply Below.drew | exact below_drewN ((Below.refl _ _).alloc (Nat.le_refl _) _) 1 | exact (Below.refl _ _).alloc (Nat.le_refl _) _)⟩
    have := HT.out
    unfold read0 at this
    rw [this]
    rfl
theorem find_hit {cs : List (ByteArray × Int)} {j : Nat} (hj : j < cs.length) (h0 : cs[j].2 = 0) (hn : ∀ i, (hi : i < cs.length) → i < j → cs[i].2 ≠ 0) : cs.find? (fun c => c.2 == 0) = some cs[j] := by
  rw [List.find?_eq_some_iff_getElem]
  exact ⟨by simp [h0], j, hj, rfl, fun k hk => by simp [hn k (by omega) hk]⟩
theorem find_miss {cs : List (ByteArray × Int)} (hn : ∀ i, (hi : i < cs.length) → cs[i].2 ≠ 0) : cs.find? (fun c => c.2 == 0) = none := by
  rw [List.find?_eq_none]
  intro x hx
  obtain ⟨i, hi, rfl⟩ := List.getElem_of_mem hx
  simp [hn i hi]
theorem below_al {w wr w' : World} (hb : Below w.heap.size w wr) (h : Below wr.heap.size wr w') : Below w.heap.size w w' := hb.trans (h.mono hb.size)
set_option maxRecDepth 100000 in
set_option maxHeartbeats 4000000 in
theorem name_call {cs : List (ByteArray × Int)} {po : Nat} (hF : G.told.answers w.tape) (h : FrameR w g o (some ⟨g, po, none⟩) f src ld) (hp : ParentR w g po false cs) (hl : cs.length ≤ 1000) (hs : src.size ≤ 1048576) (hw : (Lit.int .i64 ld).wf = true) :
    Calls Tryf.prog 36 #[.pointer (some ⟨l, 0, none⟩), .pointer (some ⟨g, o, none⟩)] w (NamePost w (nameAt (some (false, cs)) f src ld false)) := by
  have HFR := Lib.hid h
  have k2 := h.par
  obtain ⟨pp, b1, b2, b3⟩ := hp.fn
  obtain ⟨pq, ao, cap, b4, b5, hca⟩ := b3 rfl
  have b6 := hp.pc
  have HCA := Lib.hid hca
  have HT := Lib.hid (told_pos G src hs hw)
  have HFF := Lib.hid hF
  have HW := Lib.hid hw
  have HS := Lib.hid hs
  clear h hp b3 hca hw hF hs
  go_enter Tryf.func36, Tryf.ntmps36
  go_wp2_with fail
  go_loopw [46] (fun v46 wr => ∃ j : Nat, j ≤ cs.length ∧ v46 = .int .i64 j ∧ Hid (∀ i, (hi : i < cs.length) → i < j → cs[i].2 ≠ 0) ∧ Hid (Below w.heap.size w wr)) (fun v46 _ => cs.length - (intOf v46).toNat)
  case atStart => exact ⟨0, Nat.zero_le _, rfl, Lib.hid (fun i _ h => absurd h (Nat.not_lt_zero _)), Lib.hid (Below.refl _ _)⟩
  case round =>
    obtain ⟨j, hj, rfl, HN, HB⟩ := hrel
    have HF2 := Lib.hid (HFR.out.below HB.out)
    by_cases hlt : j < cs.length
    · obtain ⟨d, hd, -, hdl, hcc⟩ := HCA.out (by omega)
      subst hd
      obtain ⟨e1, e2⟩ := hcc j hlt
      have d1 := (HB.out.cell (lt_of_cell e1)).trans e1
      have d2 := (HB.out.cell (lt_of_cell e2)).trans e2
      obtain ⟨⟨s, z⟩, hsz⟩ : ∃ x, cs[j] = x := ⟨_, rfl⟩
      simp only [hsz] at d1 d2
      have HSZ := Lib.hid hsz
      have h1 : (j : Int) < (cs.length : Int) := by omega
      clear e1 e2 hcc hdl hsz
      by_cases hz : z = 0
      · have tz : (z == 0) = true := by simp [hz]
        have HZ := Lib.hid hz
        clear hz
        have HB2 := Lib.hid (HB.out.alloc HB.out.size (.cells #[.string s, .int .i64 z] 78))
        have HF3 := Lib.hid (HF2.out.below ((Below.refl _ _).alloc (Nat.le_refl _) (.cells #[.string s, .int .i64 z] 78)))
        have hFF := HFF.out
        rw [← HB2.out.tape] at hFF
        have hF' := answers_open hFF
        clear hFF
        obtain ⟨p, a1, a2, a3⟩ := HF3.out.fn
        have a4 := HF3.out.tail
        obtain ⟨t, ht⟩ : ∃ t, tailF f = t := ⟨_, rfl⟩
        rw [ht] at a4
        obtain ⟨fg, hfg⟩ : ∃ b, f.g = b := ⟨_, rfl⟩
        rw [hfg] at a2 a3
        have HR0 : Hid (nameAt (some (false, cs)) f src ld false = (if (s.toList = [63] ∨ 0 < t) ∧ fg = false then posText src ld else s, false)) := Lib.hid (by
          have h1 := find_hit hlt (by rw [HSZ.out]; exact HZ.out) HN.out
          rw [HSZ.out] at h1
          unfold nameAt
          simp only [h1]
          unfold hitName
          rw [ht, hfg]
          rfl)
        clear ht hfg HF3
        by_cases hq : s.toList = [63]
        · have tq : (s.toList == [63]) = true := by simp [hq]
          cases fg with
          | true =>
            have HRES : Hid (nameAt (some (false, cs)) f src ld false = (s, false)) := Lib.hid (by rw [HR0.out]; simp)
            clear a3
            go_wp2_with fail
            go_ret2
            exact ⟨by rw [HRES.out]; rfl, HB2.out⟩
          | false =>
            have HRES : Hid (nameAt (some (false, cs)) f src ld false = (posText src ld, false)) := Lib.hid (by rw [HR0.out]; simp [hq])
            obtain ⟨q, c1, c2, c3⟩ := a3 rfl
            clear a3
            go_upto_region 14 with (fail)
            generalize wr.alloc (.cells #[.string s, .int .i64 z] 78) = w2 at *
            go_still_tail 22, (by kernel_rfl)
            change wpList _ _ _ _ _ w2.drew
            go_wp2_with fail
            go_ret2
            refine ⟨?_, HB2.out.trans (Below.mono (by repeat (first | exact Below.refl _ _ | apply Below.drew | exact below_drewN (Below.alloc (Below.refl _ _) (Nat.le_refl _) _) 1 | refine Below.alloc ?_ (by simp) _ | exact (Below.refl _ _).alloc (Nat.le_refl _) _)) HB2.out.size)⟩
            rw [HRES.out]
            have := HT.out
            unfold read0 at this
            rw [this]
            rfl
        · have tq : (s.toList == [63]) = false := by simp [hq]
          by_cases h0 : 0 < t
          · cases fg with
            | true =>
              have HRES : Hid (nameAt (some (false, cs)) f src ld false = (s, false)) := Lib.hid (by rw [HR0.out]; simp)
              clear a3
              go_wp2_with fail
              go_ret2
              exact ⟨by rw [HRES.out]; rfl, HB2.out⟩
            | false =>
              have HRES : Hid (nameAt (some (false, cs)) f src ld false = (posText src ld, false)) := Lib.hid (by rw [HR0.out]; simp [h0])
              obtain ⟨q, c1, c2, c3⟩ := a3 rfl
              clear a3
              go_upto_region 14 with (fail)
              generalize wr.alloc (.cells #[.string s, .int .i64 z] 78) = w2 at *
              go_still_tail 22, (by kernel_rfl)
              change wpList _ _ _ _ _ w2.drew
              go_wp2_with fail
              go_ret2
              refine ⟨?_, HB2.out.trans (Below.mono (by repeat (first | exact Below.refl _ _ | apply Below.drew | exact below_drewN (Below.alloc (Below.refl _ _) (Nat.le_refl _) _) 1 | refine Below.alloc ?_ (by simp) _ | exact (Below.refl _ _).alloc (Nat.le_refl _) _)) HB2.out.size)⟩
              rw [HRES.out]
              have := HT.out
              unfold read0 at this
              rw [this]
              rfl
          · have HRES : Hid (nameAt (some (false, cs)) f src ld false = (s, false)) := Lib.hid (by rw [HR0.out]; simp [hq, h0])
            clear a3
            cases fg with
            | true =>
              go_wp2_with fail
              go_ret2
              exact ⟨by rw [HRES.out]; rfl, HB2.out⟩
            | false =>
              go_wp2_with fail
              go_ret2
              exact ⟨by rw [HRES.out]; rfl, HB2.out⟩
      · have tz : (z == 0) = false := by simp [hz]
        have HN2 : Hid (∀ i, (hi : i < cs.length) → i < j + 1 → cs[i].2 ≠ 0) := Lib.hid (fun i hi h => by
          rcases Nat.lt_or_ge i j with h2 | h2
          · exact HN.out i hi h2
          · obtain rfl : i = j := by omega
            rw [HSZ.out]; exact hz)
        have HB2 := Lib.hid (HB.out.alloc HB.out.size (.cells #[.string s, .int .i64 z] 78))
        clear hz
        go_wp2_with fail
        go_roundw
        case rel => exact ⟨j + 1, by omega, by go_num, HN2, HB2⟩
        case measure => simp [intOf]; omega
    · obtain rfl : j = cs.length := by omega
      have HRES0 : Hid (nameAt (some (false, cs)) f src ld false = (missName f src ld, false)) := Lib.hid (by
        have h1 := find_miss (fun i hi => HN.out i hi hi)
        unfold nameAt
        simp only [h1]
        rfl)
      have hFF := HFF.out
      rw [← HB.out.tape] at hFF
      have hF' := answers_open hFF
      clear hFF
      obtain ⟨p, a1, a2, a3⟩ := HF2.out.fn
      obtain ⟨fg, hfg⟩ : ∃ b, f.g = b := ⟨_, rfl⟩
      rw [hfg] at a2 a3
      cases fg with
      | true =>
        have HRES : Hid (nameAt (some (false, cs)) f src ld false = (⟨#[40, 97, 110, 111, 110, 121, 109, 111, 117, 115, 41]⟩, false)) := Lib.hid (by rw [HRES0.out]; unfold missName; rw [hfg]; rfl)
        clear a3 hfg
        go_wp2_with fail
        go_ret2
        exact ⟨by rw [HRES.out]; rfl, HB.out⟩
      | false =>
        have HRES : Hid (nameAt (some (false, cs)) f src ld false = (posText src ld, false)) := Lib.hid (by rw [HRES0.out]; unfold missName; rw [hfg]; rfl)
        obtain ⟨q, c1, c2, c3⟩ := a3 rfl
        clear a3 hfg
        go_wp2_with fail
        go_still_tail 22, (by kernel_rfl)
        change wpList _ _ _ _ _ wr.drew
        go_wp2_with fail
        go_ret2
        refine ⟨?_, HB.out.trans (Below.mono (by repeat (first | exact Below.refl _ _ | apply Below.drew | exact below_drewN (Below.alloc (Below.refl _ _) (Nat.le_refl _) _) 1 | refine Below.alloc ?_ (by simp) _ | exact (Below.refl _ _).alloc (Nat.le_refl _) _)) HB.out.size)⟩
        rw [HRES.out]
        have := HT.out
        unfold read0 at this
        rw [this]
        rfl
end
end Go.Proofs.YtjbehcabekkjdaaFmt
