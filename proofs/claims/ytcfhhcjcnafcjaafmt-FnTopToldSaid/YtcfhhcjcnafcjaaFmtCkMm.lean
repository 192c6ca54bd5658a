/-
  The contracts of zzClsHas and one; the state of the reference's match. Conditions as each statement says.
-/
import Derived.Test.YtcfhhcjcnafcjaaFmtZSingAll
import Derived.Test.YtcfhhcjcnafcjaaFmtMtAll
import Derived.Test.YtcfhhcjcnafcjaaFmtClsM
import Derived.Test.YtcfhhcjcnafcjaaFmtVmDefs
import Derived.Deep.LoopGhost
import Derived.BigQuiet
import Derived.BigGuardPart
import Derived.Test.YtcfhhcjcnafcjaaFmtBase
import Derived.Deep.RegionHeld3
namespace Go.Proofs.YtcfhhcjcnafcjaaFmt
open Go.RowKit
set_option linter.unusedVariables false
set_option linter.unusedSimpArgs false


theorem si_three (i : SI) : i.cells.length = 3 := by cases i <;> rfl
theorem sicells_get : ∀ (l : List SI) (i j : Nat) (it : SI), l[i]? = some it → j < 3 → (sicells l)[i * 3 + j]? = it.cells[j]?
  | [], i, j, it, h, hj => by simp at h
  | x :: l, 0, j, it, h, hj => by
    simp only [List.getElem?_cons_zero, Option.some.injEq] at h
    subst h
    show (x.cells ++ sicells l)[0 * 3 + j]? = _
    rw [List.getElem?_append_left (by rw [si_three]; omega), Nat.zero_mul, Nat.zero_add]
  | x :: l, i + 1, j, it, h, hj => by
    simp only [List.getElem?_cons_succ] at h
    show (x.cells ++ sicells l)[(i + 1) * 3 + j]? = _
    rw [List.getElem?_append_right (by rw [si_three]; omega), si_three, show (i + 1) * 3 + j - 3 = i * 3 + j by omega]
    exact sicells_get l i j it h hj
theorem chk_ret {a b : Bool} {w : World} (h : a = b) : Ending.returned (.bool a) = .returned (.bool b) := by rw [h]
theorem beq_flip (a b : Int) : (a == b) = (b == a) := by
  by_cases h : a = b
  · subst h; rfl
  · rw [beq_eq_false_iff_ne.2 h, beq_eq_false_iff_ne.2 (Ne.symm h)]
def siHas (c : Int) : SI → Bool
  | .chr z => c == z
  | .rng a b => decide (a ≤ c) && decide (c ≤ b)
  | .esc z => singB z c
theorem siHas_el (c : Int) (i : SI) : (elOf i).has c = siHas c i := by
  cases i with
  | chr z => exact beq_flip z c
  | rng a b => rfl
  | esc z => rfl
theorem set_any (l : List SI) (neg : Bool) (c : Int) : (clOf (.set neg l)).has c = if l.any (siHas c) then !neg else neg := by
  show (if (l.map elOf).any (fun e => e.has c) then !neg else neg) = _
  rw [List.any_map]
  have : ((fun e => El.has e c) ∘ elOf) = siHas c := by funext i; exact siHas_el c i
  rw [this]
set_option maxRecDepth 100000 in
set_option maxHeartbeats 2000000 in
theorem cls_has {w : World} {kb o B : Nat} {c : CK} {xs : List Value} (hx : ∀ j v, xs[j]? = some v → w.cell? ⟨kb, o + j, none⟩ = some v) (hc : CkAt w B c xs) {ch : Int} (h0 : 0 ≤ ch) :
    Calls Tryf.prog 37 #[.pointer (some ⟨kb, o, none⟩), .int .i64 ch] w fun e w' => e = .returned (.bool ((clOf c).has ch)) ∧ Below w.heap.size w w' := by
  cases hc with
  | @lit z =>
    have k0 := hx 0 _ rfl
    have k1 := hx 1 _ rfl
    rw [Nat.add_zero] at k0
    clear hx
    go_enter Tryf.func37, Tryf.ntmps37
    go_wp2_with fail
    go_ret
    exact ⟨chk_ret (w := w) (beq_flip _ _), Below.refl _ _⟩
  | dot =>
    have k0 := hx 0 _ rfl
    rw [Nat.add_zero] at k0
    clear hx
    go_enter Tryf.func37, Tryf.ntmps37
    go_wp2_with fail
    go_ret
    exact ⟨rfl, Below.refl _ _⟩
  | @esc z =>
    have k0 := hx 0 _ rfl
    have k1 := hx 1 _ rfl
    rw [Nat.add_zero] at k0
    have HZ := Lib.hid (zsing_any z ch h0 w)
    clear hx
    go_enter Tryf.func37, Tryf.ntmps37
    go_wp2_with fail
    refine HZ.out.mono ?_
    rintro e w' ⟨rfl, rfl⟩
    go_wp2_with fail
    go_ret
    exact ⟨rfl, Below.refl _ _⟩
  | @set neg l ao cap hi =>
    have k0 := hx 0 _ rfl
    have k2 := hx 2 _ rfl
    have k3 := hx 3 _ rfl
    rw [Nat.add_zero] at k0
    have HI := Lib.hid hi
    have hmx := owns_max hi
    have HKL := Lib.hid (lt_of_cell k0)
    have HK2 := Lib.hid k2
    have HV : Hid (∀ v, v = (if l.any (siHas ch) then !neg else neg) → (clOf (.set neg l)).has ch = v) := Lib.hid (fun v hv => by rw [set_any, hv])
    clear hx hi
    go_enter Tryf.func37, Tryf.ntmps37
    go_wp2_with fail
    clear k0 k2 k3
    go_loopg [6, 7, 35] l.length (fun k v6 v7 v35 wr => ∃ i : Nat, k = l.length - i ∧ i ≤ l.length ∧ v35 = .int .i64 (i : Int) ∧ Hid (Below w.heap.size w wr) ∧ Hid ((l.take i).any (siHas ch) = false))
    case atStart => exact ⟨0, rfl, Nat.zero_le _, rfl, Lib.hid (Below.refl _ _), Lib.hid rfl⟩
    case round =>
      obtain ⟨i, rfl, hil, rfl, HB, HN⟩ := hrel
      have k2 : wr.cell? ⟨kb, o + 2, none⟩ = some (.bool neg) := (HB.out.cell (p := ⟨kb, o + 2, none⟩) HKL.out).trans HK2.out
      by_cases hlt : i < l.length
      · obtain ⟨it, hit⟩ : ∃ it, l[i]? = some it := ⟨_, List.getElem?_eq_getElem hlt⟩
        obtain ⟨g, rfl⟩ : ∃ g, ao = some ⟨g, 0, none⟩ := row_some HI.out (by omega)
        have hgl := (owns_lt HI.out g rfl).2
        have hcell : ∀ j v, it.cells[j]? = some v → j < 3 → wr.cell? ⟨g, i * 3 + j, none⟩ = some v := fun j v hv hj => by
          refine (HB.out.cell (p := ⟨g, i * 3 + j, none⟩) hgl).trans ((HI.out.cellAt (i * 3 + j) (by omega)).trans ?_)
          rw [sicells_get l i j it hit hj, hv]
        have hli : (i : Int) < (l.length : Int) := by omega
        have tl : decide ((i : Int) < (l.length : Int)) = true := decide_eq_true hli
        have HIT : Hid (∀ b, siHas ch it = b → (l.take (i + 1)).any (siHas ch) = b) := Lib.hid (fun b hb => by
          rw [List.take_add_one, hit, List.any_append, HN.out]
          simp [hb])
        have HAN : Hid (siHas ch it = true → l.any (siHas ch) = true) := Lib.hid (fun h => List.any_eq_true.2 ⟨it, List.mem_of_getElem? hit, h⟩)
        have hsz := HB.out.size
        have HLK : Hid (kb < wr.heap.size) := Lib.hid (Nat.lt_of_lt_of_le HKL.out hsz)
        clear hit HN
        cases it with
        | chr z =>
          have c0 := hcell 0 _ rfl (by omega)
          have c1 := hcell 1 _ rfl (by omega)
          have c2 := hcell 2 _ rfl (by omega)
          rw [Nat.add_zero] at c0
          have k2a : ∀ ob, (wr.alloc ob).cell? ⟨kb, o + 2, none⟩ = some (.bool neg) := fun ob => (World.cell?_alloc_lt wr ob ⟨kb, o + 2, none⟩ HLK.out).trans k2
          clear hcell
          cases hq : (ch == z) with
          | true =>
            have HQ := Lib.hid hq
            go_wp2_with fail
            go_ret
            exact ⟨chk_ret (w := w) (HV.out _ (by rw [if_pos (HAN.out HQ.out)])).symm, HB.out.alloc hsz _⟩
          | false =>
            have HQ := Lib.hid hq
            go_wp2_with fail
            go_roundg (l.length - (i + 1))
            case measure => omega
            case rel => exact ⟨i + 1, rfl, by omega, rfl, Lib.hid (HB.out.alloc hsz _), Lib.hid (HIT.out _ HQ.out)⟩
        | rng a b =>
          have c0 := hcell 0 _ rfl (by omega)
          have c1 := hcell 1 _ rfl (by omega)
          have c2 := hcell 2 _ rfl (by omega)
          rw [Nat.add_zero] at c0
          have k2a : ∀ ob, (wr.alloc ob).cell? ⟨kb, o + 2, none⟩ = some (.bool neg) := fun ob => (World.cell?_alloc_lt wr ob ⟨kb, o + 2, none⟩ HLK.out).trans k2
          clear hcell
          by_cases h1 : a ≤ ch
          · have t1 : decide (a ≤ ch) = true := decide_eq_true h1
            by_cases h2 : ch ≤ b
            · have t2 : decide (ch ≤ b) = true := decide_eq_true h2
              have HQ : Hid (siHas ch (.rng a b) = true) := Lib.hid (by simp [siHas, t1, t2])
              clear h1 h2
              go_wp2_with fail
              go_ret
              exact ⟨chk_ret (w := w) (HV.out _ (by rw [if_pos (HAN.out HQ.out)])).symm, HB.out.alloc hsz _⟩
            · have t2 : decide (ch ≤ b) = false := decide_eq_false h2
              have HQ : Hid (siHas ch (.rng a b) = false) := Lib.hid (by simp [siHas, t1, t2])
              clear h1 h2
              go_wp2_with fail
              go_roundg (l.length - (i + 1))
              case measure => omega
              case rel => exact ⟨i + 1, rfl, by omega, rfl, Lib.hid (HB.out.alloc hsz _), Lib.hid (HIT.out _ HQ.out)⟩
          · have t1 : decide (a ≤ ch) = false := decide_eq_false h1
            have HQ : Hid (siHas ch (.rng a b) = false) := Lib.hid (by simp [siHas, t1])
            clear h1
            go_wp2_with fail
            go_roundg (l.length - (i + 1))
            case measure => omega
            case rel => exact ⟨i + 1, rfl, by omega, rfl, Lib.hid (HB.out.alloc hsz _), Lib.hid (HIT.out _ HQ.out)⟩
        | esc z =>
          have c0 := hcell 0 _ rfl (by omega)
          have c1 := hcell 1 _ rfl (by omega)
          have c2 := hcell 2 _ rfl (by omega)
          rw [Nat.add_zero] at c0
          have k2a : ∀ ob, (wr.alloc ob).cell? ⟨kb, o + 2, none⟩ = some (.bool neg) := fun ob => (World.cell?_alloc_lt wr ob ⟨kb, o + 2, none⟩ HLK.out).trans k2
          clear hcell
          obtain ⟨bq, hbq⟩ : ∃ bq, singB z ch = bq := ⟨_, rfl⟩
          have HZ : Hid (∀ W, Calls Tryf.prog 40 #[.int .i64 z, .int .i64 ch] W fun e w' => e = .returned (.bool bq) ∧ W = w') := Lib.hid (fun W => hbq ▸ zsing_any z ch h0 W)
          have HQ0 : Hid (siHas ch (.esc z) = bq) := Lib.hid hbq
          clear hbq
          go_wp2_with fail
          refine (HZ.out _).mono ?_
          rintro e w' ⟨rfl, rfl⟩
          cases bq with
          | true =>
            have HQ := HQ0
            go_wp2_with fail
            go_ret
            exact ⟨chk_ret (w := w) (HV.out _ (by rw [if_pos (HAN.out HQ.out)])).symm, HB.out.alloc hsz _⟩
          | false =>
            have HQ := HQ0
            go_wp2_with fail
            go_roundg (l.length - (i + 1))
            case measure => omega
            case rel => exact ⟨i + 1, rfl, by omega, rfl, Lib.hid (HB.out.alloc hsz _), Lib.hid (HIT.out _ HQ.out)⟩
      · obtain rfl : i = l.length := by omega
        go_wp2_with fail
        go_ret
        exact ⟨chk_ret (w := w) ((HV.out _ (by rw [← List.take_length (l := l), HN.out]; rfl)).symm), HB.out⟩
set_option maxRecDepth 100000 in
set_option maxHeartbeats 2000000 in
/-- The reference's one. -/
theorem one_any {w : World} {mb kb o B : Nat} {c : CK} {xs : List Value} {sa : Option Addr} {scap : Nat} {src : List Int} {s : Nat} (hm : w.cell? ⟨mb, 0, none⟩ = some (.slice sa src.length scap)) (hs : RowInt .u8 w sa src) (hby : ∀ z, z ∈ src → 0 ≤ z ∧ z ≤ 255) (hlen : src.length ≤ 1048576) (hsl : s ≤ 1048577)
    (hx : ∀ j v, xs[j]? = some v → w.cell? ⟨kb, o + j, none⟩ = some v) (hc : CkAt w B c xs) :
    Calls Tryf.prog 23 #[.pointer (some ⟨mb, 0, none⟩), .pointer (some ⟨kb, o, none⟩), .int .i64 (s : Int)] w fun e w' => e = .returned (.bool (oneAt src c s)) ∧ Below w.heap.size w w' := by
  by_cases hlt : s < src.length
  · obtain ⟨sb, so, rfl, hsc⟩ := hs (by omega)
    obtain ⟨z, hz⟩ : ∃ z, src.getD s 0 = z := ⟨_, rfl⟩
    have hcz := hsc s hlt
    have hzb := getD_byte hby s
    rw [hz] at hcz hzb
    have hz0 := hzb.1
    have hz1 := hzb.2
    have wz : IntKind.i64.wrap z = z := by rw [IntWalk.i64_in _ (by omega)]
    have HC : Hid (Calls Tryf.prog 37 #[.pointer (some ⟨kb, o, none⟩), .int .i64 z] w fun e w' => e = .returned (.bool (oneAt src c s)) ∧ Below w.heap.size w w') := Lib.hid (by
      have h := cls_has hx hc hz0
      have e : oneAt src c s = (clOf c).has z := by unfold oneAt; rw [decide_eq_true hlt, byteAt_lt hlt, hz]; rfl
      rw [e]; exact h)
    have tl : decide ((s : Int) < (src.length : Int)) = true := decide_eq_true (by omega)
    have hli : (s : Int) < (src.length : Int) := by omega
    clear hx hc hs hsc hz hzb
    go_enter Tryf.func23, Tryf.ntmps23
    go_wp2_with fail
    refine HC.out.mono ?_
    rintro e w' ⟨rfl, hb⟩
    have HB := Lib.hid hb
    clear hb
    go_wp2_with fail
    go_ret
    exact ⟨rfl, HB.out⟩
  · have e : oneAt src c s = false := oneAt_end (by omega)
    rw [e]
    have tl : decide ((s : Int) < (src.length : Int)) = false := decide_eq_false (by omega)
    clear hx hc hs
    go_enter Tryf.func23, Tryf.ntmps23
    go_wp2_with fail
    go_ret
    exact ⟨rfl, Below.refl _ _⟩


/-- What match may turn: the two rows of captures, new blocks. -/
structure K2 (w w' : World) (ca ea : Nat) : Prop where
  os : w'.os = w.os
  tape : w'.tape = w.tape
  output : w'.output = w.output
  size : w.heap.size ≤ w'.heap.size
  block : ∀ k, k < w.heap.size → k ≠ ca → k ≠ ea → w'.heap[k]? = w.heap[k]?
theorem K2.refl (w : World) (ca ea : Nat) : K2 w w ca ea := ⟨rfl, rfl, rfl, Nat.le_refl _, fun _ _ _ _ => rfl⟩
theorem K2.trans {a b c : World} {ca ea : Nat} (h : K2 a b ca ea) (k : K2 b c ca ea) : K2 a c ca ea :=
  ⟨k.os.trans h.os, k.tape.trans h.tape, k.output.trans h.output, Nat.le_trans h.size k.size, fun i hi h1 h2 => (k.block i (Nat.lt_of_lt_of_le hi h.size) h1 h2).trans (h.block i hi h1 h2)⟩
theorem K2.of_below {w w' : World} {ca ea : Nat} (h : Below w.heap.size w w') : K2 w w' ca ea := ⟨h.os, h.tape, h.output, h.size, fun k hk _ _ => h.block k hk⟩
theorem K2.below {w w' : World} {ca ea B : Nat} (h : K2 w w' ca ea) (h1 : B ≤ ca) (h2 : B ≤ ea) (hB : B ≤ w.heap.size) : Below B w w' := ⟨h.os, h.tape, h.output, h.size, fun k hk => h.block k (by omega) (by omega) (by omega)⟩
theorem K2.drewN {w w' : World} {ca ea : Nat} (h : K2 w w' ca ea) (n : Nat) : K2 w (w'.drewN n) ca ea := h.trans (K2.of_below (below_drewN (Below.refl _ _) n))
/-- The reference's state at the block mb. -/
structure MM (w : World) (B mb ca ea nc : Nat) (sa : Option Addr) (scap : Nat) (src : List Int) (ka : Option Addr) (kcap : Nat) (ts : List Tk) (ks : List Value) (tl : Bool) (st : St) : Prop where
  blk : w.heap[mb]? = some (.cells #[.slice sa src.length scap, .slice ka ts.length kcap, .slice (some ⟨ca, 0, none⟩) (nc + 1) (nc + 1), .slice (some ⟨ea, 0, none⟩) (nc + 1) (nc + 1), .bool tl] 64 (0, 0))
  co : w.ownsRow B 3 1 (.slice (some ⟨ca, 0, none⟩) (nc + 1) (nc + 1)) (nc + 1) (ints st.1)
  eo : w.ownsRow B 3 1 (.slice (some ⟨ea, 0, none⟩) (nc + 1) (nc + 1)) (nc + 1) (ints st.2)
  ne : ca ≠ ea
  srcR : RowInt .u8 w sa src
  srcB : 0 < src.length → ∀ x, sa = some x → x.block < B
  own : w.ownsRow 0 59 8 (.slice ka ts.length kcap) ts.length ks
  toks : TksAt w 0 ts ks
section
variable {w w' : World} {B mb ca ea nc : Nat} {sa : Option Addr} {scap : Nat} {src : List Int} {ka : Option Addr} {kcap : Nat} {ts : List Tk} {ks : List Value} {tl : Bool} {st st' : St}
theorem MM.caT (h : MM w B mb ca ea nc sa scap src ka kcap ts ks tl st) : ∃ c, w.heap[ca]? = some (.cells c 3 (0, 0)) := own_type h.co ca rfl
theorem MM.eaT (h : MM w B mb ca ea nc sa scap src ka kcap ts ks tl st) : ∃ c, w.heap[ea]? = some (.cells c 3 (0, 0)) := own_type h.eo ea rfl
theorem MM.caB (h : MM w B mb ca ea nc sa scap src ka kcap ts ks tl st) : B ≤ ca ∧ ca < w.heap.size := owns_lt h.co ca rfl
theorem MM.eaB (h : MM w B mb ca ea nc sa scap src ka kcap ts ks tl st) : B ≤ ea ∧ ea < w.heap.size := owns_lt h.eo ea rfl
theorem MM.keep (h : MM w B mb ca ea nc sa scap src ka kcap ts ks tl st) (hk : K2 w w' ca ea) {T : TypeId} (hT : T ≠ 3) {g : Nat} {cs : Array Value} {r : Nat × Nat} (hg : w.heap[g]? = some (.cells cs T r)) : w'.heap[g]? = some (.cells cs T r) := by
  obtain ⟨c1, h1⟩ := h.caT
  obtain ⟨c2, h2⟩ := h.eaT
  refine (hk.block g (blk_lt hg) (fun e => ?_) (fun e => ?_)).trans hg
  · subst e; rw [hg] at h1; injection h1 with h1; injection h1 with _ h1; exact hT h1
  · subst e; rw [hg] at h2; injection h2 with h2; injection h2 with _ h2; exact hT h2
theorem MM.k2 (h : MM w B mb ca ea nc sa scap src ka kcap ts ks tl st) (hk : K2 w w' ca ea) (hc : w'.ownsRow B 3 1 (.slice (some ⟨ca, 0, none⟩) (nc + 1) (nc + 1)) (nc + 1) (ints st'.1)) (he : w'.ownsRow B 3 1 (.slice (some ⟨ea, 0, none⟩) (nc + 1) (nc + 1)) (nc + 1) (ints st'.2)) : MM w' B mb ca ea nc sa scap src ka kcap ts ks tl st' where
  blk := h.keep hk (by decide) h.blk
  co := hc
  eo := he
  ne := h.ne
  srcR := fun h0 => by
    obtain ⟨sb, so, e, hcell⟩ := h.srcR h0
    have hb := h.srcB h0 _ e
    have hlt := lt_of_cell (hcell 0 h0)
    simp only at hb hlt
    have := h.caB.1
    have := h.eaB.1
    exact ⟨sb, so, e, fun j hj => (World.cell?_of_block (hk.block sb hlt (by omega) (by omega))).trans (hcell j hj)⟩
  srcB := h.srcB
  own := owns_kept h.own (fun g o hg ho => by
    obtain ⟨c, hc⟩ := own_type h.own g hg
    rw [hc] at ho
    injection ho with ho
    subst ho
    exact h.keep hk (by decide) hc)
  toks := h.toks.kept (fun g cs r _ hg => h.keep hk (by decide) hg)
theorem MM.below (h : MM w B mb ca ea nc sa scap src ka kcap ts ks tl st) (hb : Below w.heap.size w w') : MM w' B mb ca ea nc sa scap src ka kcap ts ks tl st :=
  h.k2 (K2.of_below hb) (owns_kept h.co (fun g o hg ho => (hb.block g (blk_lt ho)).trans ho)) (owns_kept h.eo (fun g o hg ho => (hb.block g (blk_lt ho)).trans ho))
theorem MM.drewN (h : MM w B mb ca ea nc sa scap src ka kcap ts ks tl st) (n : Nat) : MM (w.drewN n) B mb ca ea nc sa scap src ka kcap ts ks tl st := h.below (below_drewN (Below.refl _ _) n)
theorem ints_set (l : List Nat) (n v : Nat) : (ints l).set n (.int .i64 (v : Int)) = ints (l.set n v) := by simp [ints, List.map_set]
theorem MM.setC (h : MM w B mb ca ea nc sa scap src ka kcap ts ks tl st) (n v : Nat) : MM (w.setCell ⟨ca, n, none⟩ (.int .i64 (v : Int))) B mb ca ea nc sa scap src ka kcap ts ks tl (st.1.set n v, st.2) ∧ K2 w (w.setCell ⟨ca, n, none⟩ (.int .i64 (v : Int))) ca ea := by
  have hs := h.co.stored n (.int .i64 (v : Int))
  have hk : K2 w (w.setCell ⟨ca, n, none⟩ (.int .i64 (v : Int))) ca ea := ⟨hs.2.os, hs.2.tape, hs.2.output, hs.2.size, fun k hk h1 _ => hs.2.block k hk (fun e => h1 (by simpa [blkOf] using e))⟩
  refine ⟨h.k2 hk (by rw [← ints_set]; exact hs.1) (owns_kept h.eo (fun g o hg ho => ?_)), hk⟩
  have : g = ea := by simpa [blkOf] using hg.symm
  subst this
  exact (Below.heap_setCell _ _ _ _ (fun e => h.ne e.symm)).trans ho
theorem MM.setE (h : MM w B mb ca ea nc sa scap src ka kcap ts ks tl st) (n v : Nat) : MM (w.setCell ⟨ea, n, none⟩ (.int .i64 (v : Int))) B mb ca ea nc sa scap src ka kcap ts ks tl (st.1, st.2.set n v) ∧ K2 w (w.setCell ⟨ea, n, none⟩ (.int .i64 (v : Int))) ca ea := by
  have hs := h.eo.stored n (.int .i64 (v : Int))
  have hk : K2 w (w.setCell ⟨ea, n, none⟩ (.int .i64 (v : Int))) ca ea := ⟨hs.2.os, hs.2.tape, hs.2.output, hs.2.size, fun k hk _ h1 => hs.2.block k hk (fun e => h1 (by simpa [blkOf] using e))⟩
  refine ⟨h.k2 hk (owns_kept h.co (fun g o hg ho => ?_)) (by rw [← ints_set]; exact hs.1), hk⟩
  have : g = ca := by simpa [blkOf] using hg.symm
  subst this
  exact (Below.heap_setCell _ _ _ _ h.ne).trans ho
theorem MM.cs (h : MM w B mb ca ea nc sa scap src ka kcap ts ks tl st) {n : Nat} (hn : n < nc + 1) : w.cell? ⟨ca, n, none⟩ = some (.int .i64 ((st.1.getD n 0 : Nat) : Int)) := by
  have hl : (ints st.1).length = nc + 1 := by have := h.co.1; omega
  have hl2 : n < st.1.length := by simp [ints] at hl; omega
  rw [h.co.cellAt n (by omega), ints_get, List.getElem?_eq_getElem hl2, List.getD_eq_getElem?_getD, List.getElem?_eq_getElem hl2]; rfl
theorem MM.es (h : MM w B mb ca ea nc sa scap src ka kcap ts ks tl st) {n : Nat} (hn : n < nc + 1) : w.cell? ⟨ea, n, none⟩ = some (.int .i64 ((st.2.getD n 0 : Nat) : Int)) := by
  have hl : (ints st.2).length = nc + 1 := by have := h.eo.1; omega
  have hl2 : n < st.2.length := by simp [ints] at hl; omega
  rw [h.eo.cellAt n (by omega), ints_get, List.getElem?_eq_getElem hl2, List.getD_eq_getElem?_getD, List.getElem?_eq_getElem hl2]; rfl
theorem toks_get {w : World} {B : Nat} {ts : List Tk} {xs : List Value} (h : TksAt w B ts xs) : ∀ (i : Nat) (t : Tk), ts[i]? = some t → ∃ ys, TkAt w B t ys ∧ ∀ j, j < 8 → xs[i * 8 + j]? = ys[j]? := by
  induction h with
  | nil => intro i t h; simp at h
  | @cons t0 ts0 xs0 ys0 h1 _ ih =>
    intro i t ht
    have h8 := h1.eight
    cases i with
    | zero =>
      simp only [List.getElem?_cons_zero, Option.some.injEq] at ht
      subst ht
      exact ⟨xs0, h1, fun j hj => by rw [Nat.zero_mul, Nat.zero_add, List.getElem?_append_left (by omega)]⟩
    | succ i =>
      obtain ⟨ys, h2, h3⟩ := ih i t (by simpa using ht)
      exact ⟨ys, h2, fun j hj => by rw [List.getElem?_append_right (by omega), h8, show (i + 1) * 8 + j - 8 = i * 8 + j by omega]; exact h3 j hj⟩
/-- A token's cells. -/
theorem MM.tok (h : MM w B mb ca ea nc sa scap src ka kcap ts ks tl st) {i : Nat} {t : Tk} (ht : ts[i]? = some t) : ∃ kb ys, ka = some ⟨kb, 0, none⟩ ∧ kb ≠ ca ∧ kb ≠ ea ∧ TkAt w 0 t ys ∧ ∀ j v, ys[j]? = some v → w.cell? ⟨kb, i * 8 + j, none⟩ = some v := by
  have hlt := (List.getElem?_eq_some_iff.1 ht).1
  obtain ⟨kb, rfl⟩ := row_some h.own (by omega)
  obtain ⟨ys, h1, h2⟩ := toks_get h.toks i t ht
  obtain ⟨c, hc⟩ := own_type h.own kb rfl
  obtain ⟨c1, hc1⟩ := h.caT
  obtain ⟨c2, hc2⟩ := h.eaT
  refine ⟨kb, ys, rfl, type_ne hc hc1 (by decide), type_ne hc hc2 (by decide), h1, fun j v hv => ?_⟩
  have h8 : j < 8 := by have := (List.getElem?_eq_some_iff.1 hv).1; rw [h1.eight] at this; exact this
  rw [h.own.cellAt (i * 8 + j) (by omega), h2 j h8, hv]
theorem MM.tk {kb : Nat} (h : MM w B mb ca ea nc sa scap src (some ⟨kb, 0, none⟩) kcap ts ks tl st) {i : Nat} {t : Tk} (ht : ts[i]? = some t) : ∃ ys, TkAt w 0 t ys ∧ ∀ j v, ys[j]? = some v → w.cell? ⟨kb, i * 8 + j, none⟩ = some v := by
  obtain ⟨kb', ys, e, -, -, h1, h2⟩ := h.tok ht
  injection e with e
  injection e with e
  subst e
  exact ⟨ys, h1, h2⟩
theorem MM.mbne (h : MM w B mb ca ea nc sa scap src ka kcap ts ks tl st) : mb ≠ ca ∧ mb ≠ ea := by
  obtain ⟨c1, hc1⟩ := h.caT
  obtain ⟨c2, hc2⟩ := h.eaT
  exact ⟨type_ne h.blk hc1 (by decide), type_ne h.blk hc2 (by decide)⟩
end
theorem four {xs : List Value} (h : xs.length = 4) : ∃ a b c d, xs = [a, b, c, d] := by
  match xs, h with
  | [a, b, c, d], _ => exact ⟨a, b, c, d, rfl⟩
/-- A class token's cells. -/
theorem cls_cells {w : World} {kb o : Nat} {c : CK} {q : Int} {ys : List Value} (ht : TkAt w 0 (.cls c q) ys) (hy : ∀ j v, ys[j]? = some v → w.cell? ⟨kb, o + j, none⟩ = some v) :
    w.cell? ⟨kb, o, none⟩ = some (.int .i64 0) ∧ w.cell? ⟨kb, o + 5, none⟩ = some (.int .u8 q) ∧ ∃ xs, CkAt w 0 c xs ∧ ∀ j v, xs[j]? = some v → w.cell? ⟨kb, o + 1 + j, none⟩ = some v := by
  cases ht with
  | @cls _ _ xs hck =>
    obtain ⟨a, b, c, d, rfl⟩ := four hck.four
    refine ⟨hy 0 _ rfl, hy 5 _ rfl, _, hck, fun j v hv => ?_⟩
    rw [Nat.add_assoc, Nat.add_comm 1 j]
    refine hy (j + 1) v ?_
    have hj := (List.getElem?_eq_some_iff.1 hv).1
    rw [List.cons_append, List.getElem?_cons_succ, List.getElem?_append_left hj]
    exact hv
/-- The reference's one at an int that is known to be the place. -/
theorem one_at {w : World} {B mb ca ea nc : Nat} {sa : Option Addr} {scap : Nat} {src : List Int} {ka : Option Addr} {kcap : Nat} {ts : List Tk} {ks : List Value} {tl : Bool} {st : St} {kb i s : Nat} {c : CK} {q : Int} {sz : Int} (h : MM w B mb ca ea nc sa scap src ka kcap ts ks tl st) (hby : ∀ z, z ∈ src → 0 ≤ z ∧ z ≤ 255) (hlen : src.length ≤ 1048576)
    (hka : ka = some ⟨kb, 0, none⟩) (hti : ts[i]? = some (.cls c q)) (hsl : s ≤ 1048577) (hsz : sz = (s : Int)) :
    Calls Tryf.prog 23 #[.pointer (some ⟨mb, 0, none⟩), .pointer (some ⟨kb, i * 8 + 1, none⟩), .int .i64 sz] w fun e w' => e = .returned (.bool (oneAt src c s)) ∧ MM w' B mb ca ea nc sa scap src ka kcap ts ks tl st ∧ K2 w w' ca ea := by
  subst hsz
  obtain ⟨kb', ys, e, h1, h2, h3, h4⟩ := h.tok hti
  rw [hka] at e
  injection e with e
  injection e with e
  subst e
  obtain ⟨-, -, xs, h5, h6⟩ := cls_cells h3 h4
  exact (one_any (blk_cell h.blk 0 _ rfl) h.srcR hby hlen hsl h6 h5).mono fun e w' ⟨h7, h8⟩ => ⟨h7, h.below h8, K2.of_below h8⟩
def resI : Option Nat → Int
  | none => -1
  | some t => (t : Int)
/-- What a call of match gives. -/
def MPost (w : World) (B mb ca ea nc : Nat) (sa : Option Addr) (scap : Nat) (src : List Int) (ka : Option Addr) (kcap : Nat) (ts : List Tk) (ks : List Value) (tl : Bool) (R : Rs) (e : Ending) (w' : World) : Prop :=
  e = .returned (.int .i64 (resI R.1)) ∧ MM w' B mb ca ea nc sa scap src ka kcap ts ks tl R.2 ∧ K2 w w' ca ea
theorem mpost_no {w : World} {B mb ca ea nc : Nat} {sa : Option Addr} {scap : Nat} {src : List Int} {ka : Option Addr} {kcap : Nat} {ts : List Tk} {ks : List Value} {tl : Bool} {st2 : St} {e : Ending} {w' : World} (h : MPost w B mb ca ea nc sa scap src ka kcap ts ks tl (none, st2) e w') : e = .returned (.int .i64 (-1)) ∧ MM w' B mb ca ea nc sa scap src ka kcap ts ks tl st2 ∧ K2 w w' ca ea := h
theorem mpost_yes {w : World} {B mb ca ea nc : Nat} {sa : Option Addr} {scap : Nat} {src : List Int} {ka : Option Addr} {kcap : Nat} {ts : List Tk} {ks : List Value} {tl : Bool} {st2 : St} {t : Nat} {e : Ending} {w' : World} (h : MPost w B mb ca ea nc sa scap src ka kcap ts ks tl (some t, st2) e w') : e = .returned (.int .i64 (t : Int)) ∧ MM w' B mb ca ea nc sa scap src ka kcap ts ks tl st2 ∧ K2 w w' ca ea := h
/-- The contract of match from a token behind the i-th on. -/
def MIh (B mb ca ea nc : Nat) (sa : Option Addr) (scap : Nat) (src : List Int) (ka : Option Addr) (kcap : Nat) (ts : List Tk) (ks : List Value) (tl : Bool) (i : Nat) : Prop :=
  ∀ (w : World) (st : St) (s : Nat) (pre post : List Tk) (X : Cx) (sz iz : Int), MM w B mb ca ea nc sa scap src ka kcap ts ks tl st → ts = pre ++ post → i < pre.length → s ≤ src.length → Lin nc X post → Ord nc X s st → sz = (s : Int) → iz = (pre.length : Int) →
    Calls Tryf.prog 16 #[.pointer (some ⟨mb, 0, none⟩), .int .i64 sz, .int .i64 iz] w (MPost w B mb ca ea nc sa scap src ka kcap ts ks tl (mt src tl post s st))
/-- The loop's body. -/
def firstLoop' : Code → Option Code
  | .loop c => some c
  | .seq a b => match firstLoop' a with
    | some c => some c
    | none => firstLoop' b
  | .block _ c => firstLoop' c
  | .scope c => firstLoop' c
  | .cond _ a b => match firstLoop' a with
    | some c => some c
    | none => firstLoop' b
  | _ => none
noncomputable def mBody : Code := ((Tryf.f16.body.bind firstLoop').getD .skip)
/-- The loop's frame. -/
structure MFr (mb s i : Nat) (a : Act) : Prop where
  df : a.defers = []
  sz : a.tmps.size = 323
  s0 : a.tmps[0]? = some (.pointer (some ⟨mb, 0, none⟩))
  s1 : a.tmps[1]? = some (.int .i64 (s : Int))
  s2 : a.tmps[2]? = some (.int .i64 (i : Int))
theorem mfr_mk {mb s i : Nat} {a : Act} {sz iz : Int} (hs : sz = (s : Int)) (hi : iz = (i : Int)) (df : a.defers = []) (sz' : a.tmps.size = 323) (s0 : a.tmps[0]? = some (.pointer (some ⟨mb, 0, none⟩))) (s1 : a.tmps[1]? = some (.int .i64 sz)) (s2 : a.tmps[2]? = some (.int .i64 iz)) : MFr mb s i a := by
  subst hs hi
  exact ⟨df, sz', s0, s1, s2⟩
section
variable (w0 : World) (B mb ca ea nc : Nat) (sa : Option Addr) (scap : Nat) (src : List Int) (ka : Option Addr) (kcap : Nat) (ts : List Tk) (ks : List Value) (tl : Bool) (R : Rs)
/-- What holds at the loop's head. -/
def MRel (w : World) (s i : Nat) : Prop :=
  ∃ (pre post : List Tk) (X : Cx) (st : St), MM w B mb ca ea nc sa scap src ka kcap ts ks tl st ∧ K2 w0 w ca ea ∧ ts = pre ++ post ∧ pre.length = i ∧ s ≤ src.length ∧ Lin nc X post ∧ Ord nc X s st ∧ mt src tl post s st = R
/-- The loop's ways out. -/
def MQ : Exit → Act → World → Prop
  | .exit id, a, w' => id = 0 ∧ ∃ s, MFr mb s ts.length a ∧ MRel w0 B mb ca ea nc sa scap src ka kcap ts ks tl R w' s ts.length
  | .ret, a, w' => a.defers = [] ∧ a.tmps[6]? = some (.int .i64 (resI R.1)) ∧ MM w' B mb ca ea nc sa scap src ka kcap ts ks tl R.2 ∧ K2 w0 w' ca ea
  | _, _, _ => False
end
/-- The attempts from lo + m - 1 down to lo. -/
def down (f : Nat → St → Rs) (lo : Nat) : Nat → St → Rs
  | 0, st => (none, st)
  | m + 1, st => match f (lo + m) st with
    | (some r, st') => (some r, st')
    | (none, st') => down f lo m st'
theorem att_down {f : Nat → St → Rs} {n lo : Nat} (h : lo ≤ n) (st : St) : ∀ j, j ≤ n - lo → (match att f n j st with
    | (some r, st') => (some r, st')
    | (none, st') => down f lo (n - lo - j) st') = down f lo (n - lo + 1) st
  | 0, _ => by
    conv => rhs; unfold down
    rw [show lo + (n - lo) = n by omega]
    rfl
  | j + 1, hj => by
    rw [← att_down h st j (by omega)]
    conv => lhs; unfold att
    generalize att f n j st = r
    obtain ⟨_ | t, st'⟩ := r
    · show (match f (n - (j + 1)) st' with
        | (some r, st') => (some r, st')
        | (none, st') => down f lo (n - lo - (j + 1)) st') = down f lo (n - lo - j) st'
      rw [show n - lo - j = (n - lo - (j + 1)) + 1 by omega]
      conv => rhs; unfold down
      rw [show lo + (n - lo - (j + 1)) = n - (j + 1) by omega]
    · rfl
theorem star_down {f : Nat → St → Rs} {n lo : Nat} (st : St) (hl : lo ≤ 1) : (if n < lo then (none, st) else att f n (n - lo) st) = down f lo (n + 1 - lo) st := by
  by_cases h : n < lo
  · rw [if_pos h, show n + 1 - lo = 0 by omega]; rfl
  · rw [if_neg h, show n + 1 - lo = n - lo + 1 by omega, ← att_down (by omega) st (n - lo) (Nat.le_refl _), Nat.sub_self]
    generalize att f n (n - lo) st = r
    obtain ⟨_ | t, st'⟩ := r <;> rfl
theorem down_at {f : Nat → St → Rs} {lo m : Nat} {st st' : St} (h : f (lo + m) st = (none, st')) : down f lo (m + 1) st = down f lo m st' := by
  conv => lhs; unfold down
  rw [h]
theorem down_yes {f : Nat → St → Rs} {lo m t : Nat} {st st' : St} (h : f (lo + m) st = (some t, st')) : down f lo (m + 1) st = (some t, st') := by
  unfold down
  rw [h]
theorem upw_yes {f : Nat → St → Rs} {one : Nat → Bool} {k s t : Nat} {st st' : St} (h : f s st = (some t, st')) : upw f one k s st = (some t, st') := by
  cases k with
  | zero => exact h
  | succ k => unfold upw; rw [h]
theorem upw_no {f : Nat → St → Rs} {one : Nat → Bool} {k s : Nat} {st st' : St} (h : f s st = (none, st')) (ho : one s = false) : upw f one k s st = (none, st') := by
  cases k with
  | zero => exact h
  | succ k => unfold upw; rw [h]; simp [ho]
theorem upw_on {f : Nat → St → Rs} {one : Nat → Bool} {k s : Nat} {st st' : St} (h : f s st = (none, st')) (ho : one s = true) : upw f one (k + 1) s st = upw f one k (s + 1) st' := by
  conv => lhs; unfold upw
  rw [h]; simp [ho]
/-- What follows a balanced match. -/
def brcR (o : Option Nat) (st : St) (f : Nat → Rs) : Rs := match o with
  | none => (none, st)
  | some s' => f s'

end Go.Proofs.YtcfhhcjcnafcjaaFmt
