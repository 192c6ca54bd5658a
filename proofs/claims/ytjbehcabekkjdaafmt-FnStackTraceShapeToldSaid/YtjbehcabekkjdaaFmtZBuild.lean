/-
  The contract of zzBuild: a stack of the frames and a state over it. Its condition: at most 4096 frames, which lie in memory.
-/
import Derived.Test.YtjbehcabekkjdaaFmtBuild
namespace Go.Proofs.YtjbehcabekkjdaaFmt
open Go.RowKit
set_option linter.unusedVariables false
set_option linter.unusedSimpArgs false

/-- The cells of a state: its parent, its stack, its current frame. -/
def lsCells (pl : Option Addr) (c : Nat) (pc : Option Addr) : Array Value :=
  #[.pointer none, .pointer pl, .pointer none, .nilFunc, .bool false, .int .i64 0, .int .i64 0, .int .i64 0, .int .i64 0, .bool false, .bool false, .bool false, .int .i32 0, .pointer none,
    .iface 27 (.pointer (some ⟨c, 0, none⟩)), .pointer none, .pointer pc, .bool false, .pointer none, .bool false, .nilFunc, .nilIface, .nilFunc]
/-- A state's cells where nothing is laid. -/
def lsCells0 : Array Value :=
  #[.pointer none, .pointer none, .pointer none, .nilFunc, .bool false, .int .i64 0, .int .i64 0, .int .i64 0, .int .i64 0, .bool false, .bool false, .bool false, .int .i32 0, .pointer none,
    .nilIface, .pointer none, .pointer none, .bool false, .pointer none, .bool false, .nilFunc, .nilIface, .nilFunc]
theorem st_any (c : Nat) (pc pl : Option Addr) (w : World) : Calls Tryf.prog 28 #[.pointer (some ⟨c, 0, none⟩), .pointer pc, .pointer pl] w fun e w' => e = .returned (.pointer (some ⟨w.heap.size, 0, none⟩)) ∧ w' = w.alloc (.cells (lsCells pl c pc) 62) := by
  go_enter Tryf.func28, Tryf.ntmps28
  go_wp2_with fail
  go_ret
  exact ⟨rfl, rfl⟩
theorem tail_is (f : Fr) (w : World) {t : Int} (ht : tailF f = t) : Calls Tryf.prog 27 #[.agg #[.bool f.g, .int .i64 f.line, .int .i64 f.tail, .string f.name, .int .i64 f.cpc]] w fun e w' => e = .returned (.int .i64 t) ∧ w' = w.alloc (.cells #[.bool f.g, .int .i64 f.line, .int .i64 f.tail, .string f.name, .int .i64 f.cpc] 41) := ht ▸ tail_any f w
/-- Where the frame below frame k lies. -/
def parentOf (g k : Nat) : Option Addr := if k = 0 then none else some ⟨g, (k - 1) * 10, none⟩
def nextOf (fs : List Fr) (i : Nat) : Option Fr := if i + 1 < fs.length then some fs[i + 1]! else none
/-- The first k frames stand on the stack. -/
def Framing (w : World) (B c g N k : Nat) (fs : List Fr) (src : ByteArray) (ld : Int) : Prop :=
  ∃ F, StackO w c g N k F ∧ ∀ i, i < k → ∃ p, F i = (some ⟨p, 0, none⟩, parentOf g i, tailF fs[i]!) ∧ FnAt w B p fs[i]! (callsOf (nextOf fs i)) src ld
structure Built (w : World) (B l c g : Nat) (fs : List Fr) (src : ByteArray) (ld : Int) (child : Bool) : Prop where
  st : Framing w B c g fs.length fs.length fs src ld
  ls : ∃ pl, w.heap[l]? = some (.cells (lsCells pl c (parentOf g fs.length)) 62 (0, 0)) ∧ pl.isNone = !child
theorem Framing.kept {w w' : World} {B c g N k : Nat} {fs : List Fr} {src : ByteArray} {ld : Int} (h : Framing w B c g N k fs src ld) (hb : Below w.heap.size w w') : Framing w' B c g N k fs src ld := by
  obtain ⟨F, h1, h2⟩ := h
  exact ⟨F, h1.kept (hb.block c h1.cl) (hb.block g h1.gl) hb.size, fun i hi => by
    obtain ⟨p, a1, a2⟩ := h2 i hi
    exact ⟨p, a1, a2.kept (fun g i _ hg => hb.cell (p := ⟨g, i, none⟩) hg) hb.size⟩⟩
theorem Built.kept {w w' : World} {B l c g : Nat} {fs : List Fr} {src : ByteArray} {ld : Int} {child : Bool} (h : Built w B l c g fs src ld child) (hb : Below w.heap.size w w') : Built w' B l c g fs src ld child := by
  obtain ⟨pl, h1, h2⟩ := h.ls
  exact ⟨h.st.kept hb, pl, (hb.block l (blk_lt h1)).trans h1, h2⟩
theorem Framing.push {w2 w3 : World} {B B' c g N k p : Nat} {F : Nat → Option Addr × Option Addr × Int} {fs : List Fr} {src : ByteArray} {ld t : Int} {pp : Option Addr} {o : Obj} (h2 : ∀ i, i < k → ∃ p, F i = (some ⟨p, 0, none⟩, parentOf g i, tailF fs[i]!) ∧ FnAt w2 B p fs[i]! (callsOf (nextOf fs i)) src ld) (hc : c < B) (hg : g < B)
    (hf : FnAt w2 B' p fs[k]! (callsOf (nextOf fs k)) src ld) (hB : B ≤ B') (hs : StackO w3 c g N (k + 1) (upd F k (some ⟨p, 0, none⟩, pp, t))) (hpp : parentOf g k = pp) (ht : tailF fs[k]! = t) (hk : Kept2 (w2.alloc o) w3 c g) : Framing w3 B c g N (k + 1) fs src ld := by
  subst hpp ht
  have hkeep : ∀ q i, B ≤ q → q < w2.heap.size → w3.cell? ⟨q, i, none⟩ = w2.cell? ⟨q, i, none⟩ := fun q i hq hl => (hk.cell (by simp; omega) (by omega) (by omega)).trans (World.cell?_alloc_lt w2 _ _ hl)
  have hsz : w2.heap.size ≤ w3.heap.size := Nat.le_trans (by simp) hk.size
  refine ⟨_, hs, fun i hi => ?_⟩
  by_cases he : i = k
  · subst he
    exact ⟨p, by unfold upd; rw [if_pos rfl], (hf.mono hB).kept hkeep hsz⟩
  · obtain ⟨q, a1, a2⟩ := h2 i (by omega)
    exact ⟨q, by unfold upd; rw [if_neg he]; exact a1, a2.kept hkeep hsz⟩
/-- What zzBuild gives. -/
def BuildPost (w : World) (fs : List Fr) (src : ByteArray) (ld : Int) (child : Bool) (e : Ending) (w' : World) : Prop :=
  ∃ B l c g, e = .returned (.tuple #[.pointer (some ⟨l, 0, none⟩), .pointer (some ⟨c, 0, none⟩)]) ∧ Built w' B l c g fs src ld child ∧ Below w.heap.size w w'
theorem built_mk {w w1 : World} {B c g : Nat} {fs : List Fr} {src : ByteArray} {ld : Int} {child : Bool} {pl : Option Addr} {n : Nat} {ls : Array Value} (h : Framing w1 B c g fs.length fs.length fs src ld) (hb : Below w.heap.size w w1) (hz : w.heap.size ≤ w1.heap.size) (hp : pl.isNone = !child) (hn : w1.heap.size = n) (hls : ls = lsCells pl c (parentOf g fs.length)) :
    BuildPost w fs src ld child (.returned (.tuple #[.pointer (some ⟨n, 0, none⟩), .pointer (some ⟨c, 0, none⟩)])) (w1.alloc (.cells ls 62)) := by
  subst hn hls
  exact ⟨B, w1.heap.size, c, g, rfl, ⟨h.kept ((Below.refl _ _).alloc (Nat.le_refl _) _), pl, blk_new _ _, hp⟩, hb.alloc hz _⟩
theorem parent_succ (g k : Nat) : parentOf g (k + 1) = some ⟨g, k * 10, none⟩ := by unfold parentOf; rw [if_neg (by omega)]; rfl
set_option maxRecDepth 100000 in
set_option maxHeartbeats 600000 in
theorem build_any (a : Option Addr) (cap : Nat) (fs : List Fr) (src : ByteArray) (ld : Int) (child : Bool) (w : World) (h : FrsAt w a fs) (hl : fs.length ≤ 4096) :
    Calls Tryf.prog 10 #[.slice a fs.length cap, .string src, .int .i64 ld, .bool child] w (BuildPost w fs src ld child) := by
  have HF := Lib.hid h
  clear h
  go_enter Tryf.func10, Tryf.ntmps10
  go_wp2_with fail
  refine (new_any fs.length w hl).mono ?_
  rintro e w1 ⟨rfl, hs1, hb1, hz1⟩
  have HS1 : Hid (Framing w1 (w.heap.size + 2) (w.heap.size + 1) w.heap.size fs.length 0 fs src ld) := Lib.hid ⟨fun _ => (none, none, 0), hs1 _, fun i hi => absurd hi (Nat.not_lt_zero _)⟩
  have HB1 := Lib.hid hb1
  have HZ1 := Lib.hid hz1
  clear hs1 hb1 hz1
  go_wp2_with fail
  go_loopw [12, 13] (fun v12 v13 wr => ∃ k : Nat, k ≤ fs.length ∧ v13 = .int .i64 k ∧ v12 = .pointer (parentOf w.heap.size k) ∧ Hid (Framing wr (w.heap.size + 2) (w.heap.size + 1) w.heap.size fs.length k fs src ld) ∧ Hid (Below w.heap.size w wr) ∧ Hid (w.heap.size + 2 ≤ wr.heap.size))
    (fun _ v13 _ => fs.length - (intOf v13).toNat)
  case atStart => exact ⟨0, Nat.zero_le _, rfl, rfl, HS1, HB1, Lib.hid (by rw [HZ1.out]; exact Nat.le_refl _)⟩
  case round =>
    obtain ⟨k, hk, rfl, rfl, HS, HB, HZ⟩ := hrel
    by_cases hlt : k < fs.length
    · have HFr := Lib.hid (HF.out.below HB.out (Nat.le_refl _))
      have h5 : (k : Int) < (fs.length : Int) := by omega
      generalize hpp : parentOf w.heap.size k = pp
      have HPP := Lib.hid hpp
      clear hpp
      go_wp2_with fail
      refine (fn_any a cap fs k src ld wr HFr.out hlt hl (cs := callsOf (nextOf fs k)) (Lib.hid rfl)).mono ?_
      rintro e w2 ⟨p, rfl, hf, hb⟩
      have HFN := Lib.hid hf
      have HB2 := Lib.hid hb
      have HF2 := Lib.hid (HFr.out.below hb (Nat.le_refl _))
      clear hf hb
      obtain ⟨b, off, rfl, hbl, hc⟩ := HF2.out (by omega)
      obtain ⟨c0, c1, c2, c3, c4⟩ := hc k hlt
      obtain ⟨⟨fg, fl, ft, nm, fc⟩, hfe⟩ : ∃ f, fs[k]! = f := ⟨_, rfl⟩
      rw [hfe] at c0 c1 c2 c3 c4
      simp only at c0 c1 c2 c3 c4
      obtain ⟨t, ht⟩ : ∃ t, tailF ⟨fg, fl, ft, nm, fc⟩ = t := ⟨_, rfl⟩
      have HT := Lib.hid ht
      have HFE := Lib.hid hfe
      clear hfe hc hbl ht
      go_wp2_with fail
      refine (tail_is ⟨fg, fl, ft, nm, fc⟩ w2 HT.out).mono ?_
      rintro e w3 ⟨rfl, hw3⟩
      have HW3 := Lib.hid hw3
      clear hw3
      obtain ⟨F, hst, hfr⟩ := HS.out.kept HB2.out
      have HST := Lib.hid hst
      have HFR := Lib.hid hfr
      clear hst hfr
      go_wp2_with fail
      refine (pushF_any (F := F) (by rw [HW3.out]; exact HST.out.alloc _) hlt hl (some ⟨p, 0, none⟩) pp t).mono ?_
      rintro e w4 ⟨rfl, hs4, hk4⟩
      have HS4 : Hid (Framing w4 (w.heap.size + 2) (w.heap.size + 1) w.heap.size fs.length (k + 1) fs src ld) := Lib.hid (Framing.push HFR.out (by omega) (by omega) HFN.out HZ.out hs4 HPP.out (by rw [HFE.out]; exact HT.out) (by rw [← HW3.out]; exact hk4))
      have HB4 : Hid (Below w.heap.size w w4) := Lib.hid (by
        have hz := HZ.out
        have hz2 := HB2.out.size
        have h3 : Below w.heap.size w w3 := by rw [HW3.out]; exact (HB.out.trans (HB2.out.mono (by omega))).alloc (by omega) _
        exact h3.trans (hk4.below (by omega) (Nat.le_refl _) h3.size))
      have HZ4 : Hid (w.heap.size + 2 ≤ w4.heap.size) := Lib.hid (by
        have h1 := HZ.out
        have h2 := HB2.out.size
        have h3 := hk4.size
        rw [HW3.out] at h3
        simp at h3
        omega)
      clear hs4 hk4 HW3
      obtain ⟨F4, hs4, -⟩ := HS4.out
      have HSF := Lib.hid hs4
      clear hs4
      go_wp2_with fail
      refine (zzAt_any HSF.out k hlt).mono ?_
      rintro e w5 ⟨rfl, rfl⟩
      go_wp2_with fail
      go_roundw
      case rel => exact ⟨k + 1, by omega, by go_num, by rw [parent_succ], HS4, HB4, HZ4⟩
      case measure => simp [intOf]; omega
    · obtain rfl : k = fs.length := by omega
      have hz : w.heap.size ≤ wr.heap.size := by have := HZ.out; omega
      have HHZ := Lib.hid hz
      have HSA : Hid (Framing (wr.alloc (.cells (lsCells0) 62)) (w.heap.size + 2) (w.heap.size + 1) w.heap.size fs.length fs.length fs src ld) := Lib.hid (HS.out.kept ((Below.refl _ _).alloc (Nat.le_refl _) _))
      have HBA := Lib.hid (HB.out.alloc hz (.cells (lsCells0) 62))
      clear hz
      generalize hpp : parentOf w.heap.size fs.length = pp
      have HPP := Lib.hid hpp
      clear hpp
      cases child with
      | false =>
        go_wp2_with fail
        refine (st_any _ _ _ _).mono ?_
        rintro e w1 ⟨rfl, hw1⟩
        have HW1 := Lib.hid hw1
        clear hw1
        go_wp2_with fail
        go_ret2
        rw [HW1.out]
        exact built_mk HS.out HB.out HHZ.out rfl rfl (by rw [HPP.out])
      | true =>
        go_wp2_with fail
        refine (st_any _ _ _ _).mono ?_
        rintro e w1 ⟨rfl, hw1⟩
        have HW1 := Lib.hid hw1
        clear hw1
        go_wp2_with fail
        go_ret2
        rw [HW1.out]
        exact built_mk HSA.out HBA.out (by have := HHZ.out; simp; omega) rfl (by simp) (by rw [HPP.out])
end Go.Proofs.YtjbehcabekkjdaaFmt
