/-
  The contract of parseClassSet where the set is whole. Its condition: the scanner lies in a block of its own; the source has at most 2^22 bytes; the set is closed.
-/
import Derived.Test.YtcfhhcjcnafcjaaFmtClsAll
import Derived.StillTailTactics
namespace Go.Proofs.YtcfhhcjcnafcjaaFmt
open Go.RowKit
set_option linter.unusedVariables false
set_option linter.unusedSimpArgs false

section
variable {w : World} {b : Nat} {sao : Option Addr} {scap : Nat} {zs : List Int} {c s : Nat}

/-- What holds at the loop's head. -/
def SetInv (w : World) (B b : Nat) (sao : Option Addr) (scap : Nat) (zs : List Int) (s m : Nat) (neg : Bool) (r : List El × Bool × Nat) (wr : World) (c : Nat) (isr : Bool) (ao : Option Addr) (cap : Nat) (acc : List El) (vs : List Value) : Prop :=
  SetO wr B m neg ao cap acc vs ∧ Scan wr b sao scap zs c s ∧ w.grownBy wr (some b) ∧ setLoop zs c acc isr = some r ∧ (isr = true → 0 < acc.length) ∧ acc.length ≤ c ∧ m < wr.heap.size

theorem last_two {acc : List El} {e : El} {N : Nat} (h : acc.length = N + 1) : (acc ++ [e])[N]? = some (acc.getLast?.getD (.chr 0)) ∧ (acc ++ [e])[N + 1]? = some e ∧ rangeUp acc e = (acc ++ [e]).take N ++ [.rng (acc.getLast?.getD (.chr 0)) e] := by
  have hne : acc ≠ [] := by rintro rfl; simp at h
  refine ⟨?_, ?_, ?_⟩
  · rw [List.getElem?_append_left (by omega), List.getLast?_eq_getElem?, show acc.length - 1 = N by omega, List.getElem?_eq_getElem (by omega)]; rfl
  · rw [← h]; simp
  · unfold rangeUp
    rw [List.take_append_of_le_length (by omega), List.dropLast_eq_take, show acc.length - 1 = N by omega]
theorem ElAt.form {X : Nat → Prop} {w : World} {e : El} {v : Value} (h : ElAt X w e v) : ∃ T a, v = .iface T (.pointer a) := by
  cases e with
  | chr c => obtain ⟨b, rfl, _⟩ := h; exact ⟨_, _, rfl⟩
  | sgl c => obtain ⟨b, rfl, _⟩ := h; exact ⟨_, _, rfl⟩
  | rng x y => obtain ⟨b, _, _, rfl, _⟩ := h; exact ⟨_, _, rfl⟩

/-- What stands behind 'set.Classes = append(set.Classes, parseClass(sc, false))'. -/
def AfterEl (w : World) (B b : Nat) (sao : Option Addr) (scap : Nat) (zs : List Int) (s m : Nat) (neg : Bool) (acc : List El) (vs : List Value) (r : El × Nat) (wc : World) : Prop :=
  ∃ g cap v, SetO wc B m neg (some ⟨g, 0, none⟩) cap (acc ++ [r.1]) (vs ++ [v]) ∧ Scan wc b sao scap zs r.2 s ∧ w.grownBy wc (some b)

theorem afterEl_mk {w w1 w2 w3 : World} {B b m : Nat} {sao : Option Addr} {scap : Nat} {zs : List Int} {s : Nat} {neg : Bool} {ao : Option Addr} {cap : Nat} {acc : List El} {vs : List Value} {r : El × Nat} {T : TypeId} {pa : Option Addr} {o : Obj} {g1 c1 : Nat}
    (hB : w.heap.size = B) (hb : b < B) (hsrc : ∀ sb so, sao = some ⟨sb, so, none⟩ → sb < B) (h1 : SetO w1 B m neg ao cap acc vs) (hs1 : w1.heap.size ≤ w2.heap.size) (hc : SetO w2 B m neg ao cap acc vs) (he : ElAt (fun k => k < w1.heap.size) w2 r.1 (.iface T (.pointer pa)))
    (hsc : Scan w2 b sao scap zs r.2 s) (hg2 : w.grownBy w2 (some b)) (hgrow : (w2.alloc o).grownBy w3 (Value.slice ao acc.length cap).ownBlock)
    (hown : w3.ownsRow B 97 1 (.slice (some ⟨g1, 0, none⟩) (acc.length + 1) c1) (acc.length + 1) (vs ++ [.iface T (.pointer pa)])) (hat : (Value.slice ao acc.length cap).ownBlock = some g1 ∨ g1 = w2.heap.size + 1) :
    AfterEl w B b sao scap zs s m neg acc vs r (w3.setCell ⟨m, 1, none⟩ (.slice (some ⟨g1, 0, none⟩) (acc.length + 1) c1)) := by
  rw [ownBlock_slice] at hgrow hat
  have hm := blk_lt h1.blk
  have hX : ∀ k, (k < B ∨ k = m ∨ blkOf ao = some k) → k < w1.heap.size := fun k hk => by
    have := h1.hm
    rcases hk with hk | hk | hk
    · omega
    · omega
    · exact (h1.row k hk).2.2
  have hF := hc.push (e := r.1) (he.kept (fun _ _ _ h => h) (fun k _ hk => hX k hk)) hgrow hown (hat.imp id (fun h => by omega))
  refine ⟨g1, c1, _, hF, ((hsc.grownAlloc _).push (B := B) hgrow (fun x hx => (hc.row x hx).2.1) hb hsrc).setFar (B := B) hc.hm hb hsrc, ?_⟩
  exact one_setCell (one_push (one_alloc hg2 _) hgrow (fun x hx => by have := (hc.row x hx).2.1; omega)) (.inr (by have := hc.hm; simp; omega)) _

theorem setInv_start (h : Scan w b sao scap zs c s) : SetO ((w.alloc (.cells #[] 97)).alloc (.cells #[.bool false, .slice (some ⟨w.heap.size, 0, none⟩) 0 0] 142)) w.heap.size (w.heap.size + 1) false (some ⟨w.heap.size, 0, none⟩) 0 [] [] := by
  have hsz : (w.alloc (Obj.cells #[] 97)).heap.size = w.heap.size + 1 := by simp
  refine ⟨?_, (World.ownsRow_lit (e := 97) (size := 1) w #[] 0 (Nat.le_refl _) (Nat.zero_le _) rfl).alloc _, .nil, by omega⟩
  have := blk_new (w.alloc (Obj.cells #[] 97)) (Obj.cells #[.bool false, .slice (some ⟨w.heap.size, 0, none⟩) 0 0] 142)
  rw [hsz] at this
  exact this
theorem SetO.fin {w : World} {B m : Nat} {neg : Bool} {ao : Option Addr} {cap : Nat} {acc : List El} {vs : List Value} (h : SetO w B m neg ao cap acc vs) : ClAt (fun k => k < B) w (.set neg acc) (.iface 139 (.pointer (some ⟨m, 0, none⟩))) :=
  ⟨m, ao, cap, vs, rfl, by have := h.hm; omega, h.blk, owns_base h.own (Nat.zero_le _), fun g hg => by have := h.row g hg; omega, h.els.kept (fun _ _ _ h => h) (fun k _ hk => .inl hk)⟩
theorem SetO.setNeg {w : World} {B m : Nat} {neg : Bool} {ao : Option Addr} {cap : Nat} {acc : List El} {vs : List Value} (h : SetO w B m neg ao cap acc vs) (q : Bool) : SetO (w.setCell ⟨m, 0, none⟩ (.bool q)) B m q ao cap acc vs := by
  refine ⟨blk_set h.blk 0 _, owns_kept h.own (fun g o hg ho => ?_), h.els.kept (fun k o hX ho => ?_) (fun _ _ h => h), h.hm⟩
  · rw [Below.heap_setCell _ _ _ _ (show g ≠ m from (h.row g hg).1)]; exact ho
  · rw [Below.heap_setCell _ _ _ _ (show k ≠ m from fun e => hX (.inr (.inl e)))]; exact ho

set_option maxHeartbeats 4000000 in
set_option maxRecDepth 100000 in
theorem parseSet_any (h : Scan w b sao scap zs c s) (h0 : 0 < zs.length) (hl : zs.length ≤ 4194304) {R : Cl × Nat} (hR : parseSet zs c = some R) :
    Calls Tryf.prog 39 #[.pointer (some ⟨b, 0, none⟩)] w (ClPost w b sao scap zs s R) := by
  obtain ⟨i0, hi, hz0, hz1, hz2⟩ := info_parts class_info
  have hbw := Lib.hid (blk_lt h.blk)
  have hsrc := Lib.hid (h.srcLt h0)
  have HO0 := Lib.hid (setInv_start h)
  have HS0 := Lib.hid ((h.grownAlloc (.cells #[] 97)).grownAlloc (.cells #[.bool false, .slice (some ⟨w.heap.size, 0, none⟩) 0 0] 142))
  have HG0 := Lib.hid (one_alloc (one_alloc (one_refl w (some b)) (.cells #[] 97)) (.cells #[.bool false, .slice (some ⟨w.heap.size, 0, none⟩) 0 0] 142))
  clear h
  obtain ⟨neg, c0, r, hneg, hr, rfl⟩ : ∃ neg c0 r, (if neg then chr zs c = 94 ∧ c0 = c + 1 ∧ c < zs.length else (chr zs c == 94) = false ∧ c0 = c) ∧ setLoop zs c0 [] false = some r ∧ R = (.set neg (setFin r.1 r.2.1), r.2.2) := by
    unfold parseSet at hR
    split at hR
    · rename_i h94
      simp only [Option.map_eq_some_iff] at hR
      obtain ⟨r, hr, rfl⟩ := hR
      refine ⟨true, c + 1, r, ⟨h94, rfl, ?_⟩, hr, rfl⟩
      rcases Nat.lt_or_ge c zs.length with h | h
      · exact h
      · unfold chr at h94; rw [if_neg (by omega)] at h94; omega
    · rename_i h94
      simp only [Option.map_eq_some_iff] at hR
      obtain ⟨r, hr, rfl⟩ := hR
      exact ⟨false, c, r, ⟨by simpa using h94, rfl⟩, hr, rfl⟩
  clear hR
  have HR := Lib.hid hr
  clear hr
  cases neg with
  | true =>
    obtain ⟨h94, rfl, hc⟩ := hneg
    have H94 := Lib.hid h94
    clear h94
    go_enter Tryf.func39, Tryf.ntmps39
    go_wp2_with fail
    refine wp_scope_exit 0 rfl (fun _ _ _ h => h) ?_
    go_wp2_with fail
    refine (peek_at HS0.out h0 H94.out).mono ?_
    rintro e w1 ⟨rfl, hs1, hg1⟩
    have HO1 := Lib.hid (HO0.out.call hg1 hbw.out)
    have HS1 := Lib.hid hs1
    have HG1 := Lib.hid (one_trans HG0.out hg1)
    have k0 := blk_cell HO1.out.blk 0 _ rfl
    have f0 := blk_free HO1.out.blk 0
    clear hs1 hg1
    go_wp2_with fail
    refine (next_at (HS1.out.setFar (B := w.heap.size) (by omega) hbw.out hsrc.out) (by omega) rfl).mono ?_
    rintro e wq ⟨rfl, hs2, hg2⟩
    have HO := Lib.hid ((HO1.out.setNeg true).call hg2 hbw.out)
    have HS := Lib.hid hs2
    have HG := Lib.hid (one_trans (one_setCell HG1.out (p := ⟨w.heap.size + 1, 0, none⟩) (.inr (by simp)) (.bool true)) hg2)
    clear hs2 hg2 k0 f0 HO1 HS1 HG1 HO0 HS0 HG0
    go_wp2_with fail

    generalize hB : w.heap.size = B at *
    have HB := Lib.hid hB
    clear hB
    have q0 : (c + 1) ≤ zs.length := by omega
    clear hc H94
    go_loopg [4] (zs.length + 1 - (c + 1)) (fun k v wr => ∃ c isr ao cap acc vs, k = zs.length + 1 - c ∧ v = .bool isr ∧ SetInv w B b sao scap zs s (B + 1) true r wr c isr ao cap acc vs)
    case atStart => exact ⟨(c + 1), false, _, _, [], [], rfl, rfl, HO.out, HS.out, HG.out, HR.out, (fun h => by cases h), Nat.zero_le _, blk_lt HO.out.blk⟩
    case round =>
      obtain ⟨c', isr, ao, cap, acc, vs, rfl, rfl, ho, hs, hg, hr', hpos, hle, hmlt⟩ := hrel
      obtain ⟨hc', hcase⟩ := setLoop_cases hr'
      have HOr := Lib.hid ho
      have HSr := Lib.hid hs
      have HGr := Lib.hid hg
      have HP := Lib.hid hpos
      have hlen : acc.length ≤ 4194304 := by omega
      clear ho hs hg hr' HO HS HG HR hpos
      rcases hcase with ⟨h93, hne, hrr⟩ | ⟨h45, hne, hr2⟩ | ⟨n1, n2, hr2⟩
      · have hp : 0 < acc.length := List.length_pos_iff.2 hne
        have H93 := Lib.hid h93
        have HRR := Lib.hid hrr
        clear h93 hne hrr
        go_wp2_with fail
        refine (peek_at HSr.out h0 H93.out).mono ?_
        rintro e w1 ⟨rfl, hs1, hg1⟩
        have HO1 := Lib.hid (HOr.out.call hg1 hbw.out)
        have HS1 := Lib.hid hs1
        have HG1 := Lib.hid (one_trans HGr.out hg1)
        have k1 := blk_cell HO1.out.blk 1 _ rfl
        clear hs1 hg1
        go_wp2_with fail
        refine (next_at HS1.out (by omega) H93.out).mono ?_
        rintro e w2 ⟨rfl, hs2, hg2⟩
        have HO2 := Lib.hid (HO1.out.call hg2 hbw.out)
        have HS2 := Lib.hid hs2
        have HG2 := Lib.hid (one_trans HG1.out hg2)
        clear k1 hs2 hg2
        have k1 := blk_cell HO2.out.blk 1 _ rfl
        cases isr with
        | false =>
          go_wp2_with fail
          go_step3
          refine ⟨rfl, ?_⟩
          go_wp2_with fail
          go_ret
          refine ⟨_, _, rfl, ?_, ?_, HG2.out⟩
          · rw [HB.out, HRR.out]; exact HO2.out.fin
          · rw [HRR.out]; exact HS2.out
        | true =>
          have HA := Lib.hid ((HO2.out.own.alloc (.cells #[.int .i64 45] 114)).alloc (.cells #[.iface 112 (.pointer (some ⟨w2.heap.size, 0, none⟩))] 97))
          have f1 := blk_free HO2.out.blk 1
          go_wp2_with fail
          go_step3
          refine ⟨rfl, ?_⟩
          go_wp2_with (at_builtin; refine wpList_push _ rfl (.tmp 117) (.tmp 121) 140 rfl B 97 i0 .nilIface 1 16 Tryf.underlying140 hi hz0 hz1 hz2 rfl (by decide) _ _ _ _ rfl HA.out ⟨w2.heap.size + 1, 0, none⟩ 1 1 [.iface 112 (.pointer (some ⟨w2.heap.size, 0, none⟩))] rfl rfl (fun j u hj => by have hsz : (w2.alloc (Obj.cells #[.int .i64 45] 114)).heap.size = w2.heap.size + 1 := (by simp); rw [← hsz]; exact cell_one_new _ _ _ j u hj) (fun u hu => by simp at hu; subst hu; rfl) (by decide) (by unfold maxLen; omega) (by omega) (by have := HO2.out.hm; have := blk_lt HO2.out.blk; simp; omega) ?_; intro g1 c1 w3 hown' hgrow hwhere; have HO' := Lib.hid hown'; have HGw := Lib.hid hgrow; have HWh := Lib.hid hwhere; clear hown' hgrow hwhere; have k3 : w3.cell? ⟨B + 1, 1, none⟩ = some (.slice ao acc.length cap) := blk_cell (blk_grown (blk_alloc (blk_alloc HO2.out.blk _) _) HGw.out (fun e => by have := HO2.out.row _ e.symm; omega)) 1 _ rfl; have f3 : w3.frozen? ⟨B + 1, 1, none⟩ = false := blk_free (blk_grown (blk_alloc (blk_alloc HO2.out.blk _) _) HGw.out (fun e => by have := HO2.out.row _ e.symm; omega)) 1)
          go_ret
          have HF := (HO2.out.alloc (.cells #[.int .i64 45] 114)).push (e := .chr 45) ⟨w2.heap.size, rfl, by have := HO2.out.row; have := blk_lt HO2.out.blk; have := HO2.out.hm; rintro (h | h | h); omega; omega; have := (HO2.out.row _ h).2.2; omega, blk_new _ _⟩ HGw.out HO'.out (HWh.out.imp id (fun h => by simp at h; simp; omega))
          refine ⟨_, _, rfl, ?_, ?_, ?_⟩
          · rw [HB.out, HRR.out]; exact HF.fin
          · rw [HRR.out]
            exact (((HS2.out.grownAlloc _).grownAlloc _).push (B := B) HGw.out (fun x hx => (HO2.out.row x hx).2.1) hbw.out hsrc.out).setFar (B := B) (by omega) hbw.out hsrc.out
          · exact one_setCell (one_push (one_alloc (one_alloc HG2.out _) _) HGw.out (fun x hx => by have := (HO2.out.row x hx).2.1; have := HB.out; omega)) (.inr (by have := HB.out; simp; omega)) _
      · have hp : 0 < acc.length := List.length_pos_iff.2 hne
        have H45 := Lib.hid h45
        have HR2 := Lib.hid hr2
        clear h45 hne hr2
        go_wp2_with fail
        refine (peek_at HSr.out h0 H45.out).mono ?_
        rintro e w1 ⟨rfl, hs1, hg1⟩
        have HO1 := Lib.hid (HOr.out.call hg1 hbw.out)
        have HS1 := Lib.hid hs1
        have HG1 := Lib.hid (one_trans HGr.out hg1)
        have k1 : w1.cell? ⟨B + 1, 1, none⟩ = some (.slice ao acc.length cap) := blk_cell HO1.out.blk 1 _ rfl
        clear hs1 hg1
        go_wp2_with fail
        refine (next_at HS1.out (by omega) H45.out).mono ?_
        rintro e w2 ⟨rfl, hs2, hg2⟩
        have HO2 := Lib.hid (HO1.out.call hg2 hbw.out)
        have HS2 := Lib.hid hs2
        have HG2 := Lib.hid (one_trans HG1.out hg2)
        clear k1 hs2 hg2
        go_wp2_with fail
        go_roundg (zs.length + 1 - (c' + 1))
        case measure => omega
        case rel => exact ⟨c' + 1, true, ao, cap, acc, vs, rfl, rfl, HO2.out, HS2.out, HG2.out, HR2.out, fun _ => hp, by omega, blk_lt HO2.out.blk⟩
      · obtain ⟨z, hz⟩ : ∃ z, chr zs c' = z := ⟨_, rfl⟩
        rw [hz] at n1 n2
        have HZ := Lib.hid hz
        have HR2 := Lib.hid hr2
        have hzb := chr_mem HSr.out.byte hc'
        rw [hz] at hzb
        clear hz hr2
        have hways : (z = 93 ∧ acc.length ≤ 0) ∨ (z = 45 ∧ acc.length ≤ 0) ∨ ((z == 93) = false ∧ (z == 45) = false ∧ (z == -1) = false) := by
          by_cases e1 : z = 93
          · left; exact ⟨e1, by have : acc = [] := (Classical.not_not.1 fun h => n1 ⟨e1, h⟩); simp [this]⟩
          · by_cases e2 : z = 45
            · right; left; exact ⟨e2, by have : acc = [] := (Classical.not_not.1 fun h => n2 ⟨e2, h⟩); simp [this]⟩
            · right; right; exact ⟨by simpa using e1, by simpa using e2, by simp; omega⟩
        have HW := Lib.hid hways
        have hec := elem_lt zs c'
        have hec1 := hec.1
        have hec2 := hec.2
        clear n1 n2 hzb hec hways
        have hpn : isr = true → 0 < acc.length := HP.out
        have HIS : Hid (isr = true → ∃ N, acc.length = N + 1) := Lib.hid (fun h => ⟨acc.length - 1, by have := hpn h; omega⟩)
        clear hpn
        rcases HW.out with ⟨rfl, hz0'⟩ | ⟨rfl, hz0'⟩ | ⟨y1, y2, y3⟩
        all_goals
          go_wp2_with fail
          refine (peek_at HSr.out h0 HZ.out).mono ?_
          rintro e w1 ⟨rfl, hs1, hg1⟩
          have HO1 := Lib.hid (HOr.out.call hg1 hbw.out)
          have HS1 := Lib.hid hs1
          have HG1 := Lib.hid (one_trans HGr.out hg1)
          have k1 : w1.cell? ⟨B + 1, 1, none⟩ = some (.slice ao acc.length cap) := blk_cell HO1.out.blk 1 _ rfl
          have f1 : w1.frozen? ⟨B + 1, 1, none⟩ = false := blk_free HO1.out.blk 1
          clear hs1 hg1
          go_wp2_with fail
        all_goals
          have HSd := Lib.hid HS1.out.drew'
          go_cut [] (fun wc => AfterEl w B b sao scap zs s (B + 1) true acc vs (elem zs c') wc)
          case first =>
            go_region_law ((first | (refine step_append_lies _ (by rfl) _ _ _ (by rfl) B 97 i0 _ 1 16 Tryf.underlying140 hi hz0 hz1 hz2 rfl (by omega) (.slice ao acc.length cap) acc.length vs (by rfl) (HO2.out.own.alloc _) ⟨w2.heap.size, 0, none⟩ 1 1 [.iface T (.pointer pa)] (by rfl) (by rfl) (cell_one_new _ _ _) (by simp [Value.oneCell']) (by omega) (by unfold maxLen; omega) (by omega) (by have := HO2.out.hm; have := blk_lt HO2.out.blk; simp; omega) (w2.heap.size + 1) (by simp) ?_; intro g1 c1 w3 hown hgrow hat hlt3; have HOw := Lib.hid hown; have HGw := Lib.hid hgrow; have HAt := Lib.hid hat; clear hown hgrow hat hlt3; have k3 : w3.cell? ⟨B + 1, 1, none⟩ = some (.slice ao acc.length cap) := blk_cell (blk_grown (blk_alloc HO2.out.blk _) HGw.out (fun e => by have := HO2.out.row _ (by rw [ownBlock_slice] at e; exact e.symm); omega)) 1 _ rfl; have f3 : w3.frozen? ⟨B + 1, 1, none⟩ = false := blk_free (blk_grown (blk_alloc HO2.out.blk _) HGw.out (fun e => by have := HO2.out.row _ (by rw [ownBlock_slice] at e; exact e.symm); omega)) 1) | (go_simp; go_at_call 30; refine (parseEl_any HSd.out hc').mono ?_; rintro e w2 ⟨T, pa, rfl, h1, h2, h3⟩; have HE := Lib.hid h1; have HS2 := Lib.hid h2; have HG2 := Lib.hid (one_trans (one_drew HG1.out) h3); have HO2 := Lib.hid (SetO.call (w := w1.drew) (HO1.out.drewN 1) h3 hbw.out); have HL2 := Lib.hid h3.size; clear h1 h2 h3; have k2 : w2.cell? ⟨B + 1, 1, none⟩ = some (.slice ao acc.length cap) := blk_cell HO2.out.blk 1 _ rfl; have n2 : ∀ o, (w2.alloc o).cell? ⟨B + 1, 1, none⟩ = some (.slice ao acc.length cap) := fun o => blk_cell (blk_alloc HO2.out.blk o) 1 _ rfl)))
            all_goals
              go_wp2_with fail
              go_meet
              case rel => exact afterEl_mk HB.out hbw.out hsrc.out HO1.out HL2.out HO2.out HE.out HS2.out HG2.out HGw.out HOw.out HAt.out
        all_goals
          obtain ⟨g1, c1, v, ho2, hs2, hg2⟩ := hcut
          have HO2 := Lib.hid ho2
          have HS2 := Lib.hid hs2
          have HG2 := Lib.hid hg2
          clear ho2 hs2 hg2
          cases isr with
          | false =>
            go_wp2_with fail
            go_roundg (zs.length + 1 - (elem zs c').2)
            case measure => omega
            case rel => exact ⟨(elem zs c').2, false, some ⟨g1, 0, none⟩, c1, acc ++ [(elem zs c').1], vs ++ [v], rfl, rfl, HO2.out, HS2.out, HG2.out, HR2.out, (fun h => by cases h), by simp; omega, blk_lt HO2.out.blk⟩
          | true =>
            first
            | (exfalso; have := HP.out rfl; omega)
            | (
                obtain ⟨N, hN⟩ := HIS.out rfl
                have hlen2 : (acc ++ [(elem zs c').1]).length = N + 2 := by simp; omega
                have k1 : wc.cell? ⟨B + 1, 1, none⟩ = some (.slice (some ⟨g1, 0, none⟩) (N + 2) c1) := by rw [← hlen2]; exact blk_cell HO2.out.blk 1 _ rfl
                obtain ⟨lt1, lt2, lt3⟩ := last_two (e := (elem zs c').1) hN
                obtain ⟨vb, hvb, heb⟩ := HO2.out.els.get N _ lt1
                obtain ⟨ve, hve, hee⟩ := HO2.out.els.get (N + 1) _ lt2
                obtain ⟨Tb, pb, rfl⟩ := heb.form
                obtain ⟨Te, pe, rfl⟩ := hee.form
                have kb : wc.cell? ⟨g1, N, none⟩ = some (.iface Tb (.pointer pb)) := (HO2.out.own.cellAt N (by omega)).trans hvb
                have ke : wc.cell? ⟨g1, N + 1, none⟩ = some (.iface Te (.pointer pe)) := (HO2.out.own.cellAt (N + 1) (by omega)).trans hve
                have HLT := Lib.hid lt3
                have HEB := Lib.hid heb
                have HEE := Lib.hid hee
                have HVB := Lib.hid hvb
                have HVE := Lib.hid hve
                have HL2 := Lib.hid hlen2
                have HN := Lib.hid hN
                have hNb : N ≤ 4194304 := by omega
                clear heb hee hvb hve hlen2 hN lt1 lt2 lt3
                have s0 : (0 : Int) ≤ (N : Int) := Int.natCast_nonneg _
                have s1 : (N : Int) < (N : Int) + 2 := by omega
                have s2 : (N : Int) + 1 < (N : Int) + 2 := by omega
                have s3 : (0 : Int) ≤ (N : Int) + 1 := by omega
                have s4 : ((N : Int) + 1).toNat = N + 1 := by omega
                have s5 : IntKind.i64.wrap ((N : Int) + 2 - 2) = (N : Int) := by rw [IntWalk.i64_in _ (by omega)]; omega
                have s6 : IntKind.i64.wrap ((N : Int) + 2 - 1) = (N : Int) + 1 := by rw [IntWalk.i64_in _ (by omega)]; omega
                go_wp2_with fail
                go_quiet (fail)
                go_wp2_with fail
                go_quiet (fail)
                generalize hwd : World.drewN (World.drewN wc _) _ = wd
                have HO3 : Hid (SetO wd B (B + 1) true (some ⟨g1, 0, none⟩) c1 (acc ++ [(elem zs c').1]) (vs ++ [v])) := by subst hwd; exact Lib.hid ((HO2.out.drewN _).drewN _)
                have HS3 : Hid (Scan wd b sao scap zs (elem zs c').2 s) := by subst hwd; exact Lib.hid ((HS2.out.drewN' _).drewN' _)
                have HG3 : Hid (w.grownBy wd (some b)) := by subst hwd; exact Lib.hid (one_drewN (one_drewN HG2.out _) _)
                have HWD : Hid (∀ (k : Nat) (o : Obj), wc.heap[k]? = some o → wd.heap[k]? = some o) := by subst hwd; exact Lib.hid (fun _ _ h => h)
                clear hwd
                have k1' : wd.cell? ⟨B + 1, 1, none⟩ = some (.slice (some ⟨g1, 0, none⟩) (N + 2) c1) := by rw [← HL2.out]; exact blk_cell HO3.out.blk 1 _ rfl
                have f1' : wd.frozen? ⟨B + 1, 1, none⟩ = false := blk_free HO3.out.blk 1
                have s7 : IntKind.i64.wrap (N : Int) = (N : Int) := by rw [IntWalk.i64_in _ (by omega)]
                have hcapN : N + 2 ≤ c1 := by have := HL2.out; rw [← this]; exact owns_cap HO3.out.own
                have s8 : (N : Int) ≤ (c1 : Int) := by omega
                go_wp2_with fail
                go_still_tail 14, (by kernel_rfl)
                change wpList _ _ _ _ _ wd.drew
                have HC := Lib.hid (HO3.out.cut (k := N) (by simp; have := HN.out; omega))
                have hgm : g1 ≠ B + 1 := (HO3.out.row g1 rfl).1
                have HGM := Lib.hid hgm
                have hX3 : ∀ k, k < B ∨ k = B + 1 ∨ blkOf (some (⟨g1, 0, none⟩ : Addr)) = some k → k < wd.heap.size := fun k hk => by
                  rcases hk with hk | hk | hk
                  · have := HO3.out.row g1 rfl; omega
                  · have := blk_lt HO3.out.blk; omega
                  · exact (HO3.out.row k hk).2.2
                have HX3 := Lib.hid hX3
                have hsz : (wd.setCell ⟨B + 1, 1, none⟩ (.slice (some ⟨g1, 0, none⟩) N c1)).heap.size = wd.heap.size := by simp [World.setCell]
                have HSZ := Lib.hid hsz
                have HEW : Hid (ElAt (fun k => k < B ∨ k = B + 1 ∨ blkOf (some (⟨g1, 0, none⟩ : Addr)) = some k) (((wd.setCell ⟨B + 1, 1, none⟩ (.slice (some ⟨g1, 0, none⟩) N c1)).alloc (.cells #[.iface Tb (.pointer pb), .iface Te (.pointer pe)] 145)).alloc (.cells #[.iface 143 (.pointer (some ⟨wd.heap.size, 0, none⟩))] 97)).drew (.rng (acc.getLast?.getD (.chr 0)) (elem zs c').1) (.iface 143 (.pointer (some ⟨wd.heap.size, 0, none⟩)))) := by
                  have kp : ∀ (k : Nat) (o : Obj), ¬ (k < B ∨ k = B + 1 ∨ blkOf (some (⟨g1, 0, none⟩ : Addr)) = some k) → wc.heap[k]? = some o → (wd.setCell ⟨B + 1, 1, none⟩ (.slice (some ⟨g1, 0, none⟩) N c1)).heap[k]? = some o := fun k o hX ho => by
                    rw [Below.heap_setCell _ _ _ _ (show k ≠ B + 1 from fun e => hX (.inr (.inl e)))]
                    exact HWD.out k o ho
                  have := rng_mk (o2 := .cells #[.iface 143 (.pointer (some ⟨wd.heap.size, 0, none⟩))] 97) (HEB.out.kept kp (fun _ _ h => h)) (HEE.out.kept kp (fun _ _ h => h)) (fun h => by have := hX3 _ h; rw [hsz] at this; omega)
                  rw [hsz] at this
                  exact Lib.hid this
                have HOW := Lib.hid (((HC.out.alloc (.cells #[.iface Tb (.pointer pb), .iface Te (.pointer pe)] 145)).alloc (.cells #[.iface 143 (.pointer (some ⟨wd.heap.size, 0, none⟩))] 97)).drewN 1)
                have htl : ((acc ++ [(elem zs c').1]).take N).length = N := by simp; have := HN.out; omega
                have HTL := Lib.hid htl
                have hown0 := HOW.out.own
                rw [htl] at hown0
                have HOWN := Lib.hid hown0
                have hszB : B ≤ wd.heap.size := by have := HO3.out.row g1 rfl; omega
                clear hgm s5 s6 s7 hX3 hsz htl hown0
                have HNA : Hid (∀ (j : Nat) (u : Value), [Value.iface 143 (.pointer (some ⟨wd.heap.size, 0, none⟩))][j]? = some u → ((((wd.setCell ⟨B + 1, 1, none⟩ (.slice (some ⟨g1, 0, none⟩) N c1)).alloc (.cells #[.iface Tb (.pointer pb), .iface Te (.pointer pe)] 145)).alloc (.cells #[.iface 143 (.pointer (some ⟨wd.heap.size, 0, none⟩))] 97)).drew).cell? ((⟨wd.heap.size + 1, 0, none⟩ : Addr).add j) = some u) := Lib.hid (news_at (by simp [World.setCell]))
                go_wp2_with (at_builtin; refine wpList_push _ rfl (.tmp 102) (.tmp 108) 140 rfl B 97 i0 .nilIface 1 16 Tryf.underlying140 hi hz0 hz1 hz2 rfl (by decide) _ _ _ _ rfl HOWN.out ⟨wd.heap.size + 1, 0, none⟩ 1 1 [.iface 143 (.pointer (some ⟨wd.heap.size, 0, none⟩))] rfl rfl HNA.out (fun u hu => by simp at hu; subst hu; rfl) (by decide) (by unfold maxLen; omega) (by omega) (by simp [World.setCell]; omega) ?_; intro g2 c2 w3 hown' hgrow hwhere; have HO' := Lib.hid hown'; have HGw := Lib.hid hgrow; have HWh := Lib.hid hwhere; clear hown' hgrow hwhere; have k3 : w3.cell? ⟨B + 1, 1, none⟩ = some (.slice (some ⟨g1, 0, none⟩) N c1) := (blk_cell (blk_grown HOW.out.blk HGw.out (fun e => HGM.out (by simp only [blkOf, Option.map_some, Option.some.injEq] at e; exact e.symm))) 1 _ rfl).trans (by rw [HTL.out]; rfl); have f3 : w3.frozen? ⟨B + 1, 1, none⟩ = false := blk_free (blk_grown HOW.out.blk HGw.out (fun e => HGM.out (by simp only [blkOf, Option.map_some, Option.some.injEq] at e; exact e.symm))) 1)
                go_roundg (zs.length + 1 - (elem zs c').2)
                case measure => omega
                case rel =>
                  have HF := HOW.out.pushN HTL.out HEW.out HGw.out HO'.out HWh.out
                  have hlen4 : ((acc ++ [(elem zs c').1]).take N ++ [El.rng (acc.getLast?.getD (.chr 0)) (elem zs c').1]).length = N + 1 := by simp only [List.length_append, HTL.out]; rfl
                  refine ⟨(elem zs c').2, false, some ⟨g2, 0, none⟩, c2, (acc ++ [(elem zs c').1]).take N ++ [.rng (acc.getLast?.getD (.chr 0)) (elem zs c').1], (vs ++ [v]).take N ++ [.iface 143 (.pointer (some ⟨wd.heap.size, 0, none⟩))], rfl, rfl, HF, ?_, ?_, ?_, (fun h => by cases h), ?_, blk_lt HF.blk⟩
                  · exact (((((HS3.out.setFar (B := B) (by omega) hbw.out hsrc.out).grownAlloc _).grownAlloc _).drew').push (B := B) HGw.out (fun x hx => (HO3.out.row x hx).2.1) hbw.out hsrc.out).setFar (B := B) (by omega) hbw.out hsrc.out
                  · exact one_setCell (one_push (one_drew (one_alloc (one_alloc (one_setCell HG3.out (.inr (by have := HB.out; simp; omega)) _) _) _)) HGw.out (fun x hx => by have := (HO3.out.row x hx).2.1; have := HB.out; omega)) (.inr (by have := HB.out; simp; omega)) _
                  · have := HR2.out; simp only [if_true] at this; rw [HLT.out] at this; exact this
                  · rw [hlen4]; have := HN.out; omega)
  | false =>
    obtain ⟨h94, rfl⟩ := hneg
    obtain ⟨z0, hz0'⟩ : ∃ z, chr zs c0 = z := ⟨_, rfl⟩
    have H94 := Lib.hid hz0'
    rw [hz0'] at h94
    have hcn : c0 ≤ zs.length + 1 := HS0.out.cb
    clear hz0'
    go_enter Tryf.func39, Tryf.ntmps39
    go_wp2_with fail
    refine wp_scope_exit 0 rfl (fun _ _ _ h => h) ?_
    go_wp2_with fail
    refine (peek_at HS0.out h0 H94.out).mono ?_
    rintro e wq ⟨rfl, hs1, hg1⟩
    have HO := Lib.hid (HO0.out.call hg1 hbw.out)
    have HS := Lib.hid hs1
    have HG := Lib.hid (one_trans HG0.out hg1)
    clear hs1 hg1 HO0 HS0 HG0
    go_wp2_with fail
    generalize hB : w.heap.size = B at *
    have HB := Lib.hid hB
    clear hB
    have q0 : c0 ≤ zs.length + 1 := by omega
    clear H94
    go_loopg [4] (zs.length + 1 - c0) (fun k v wr => ∃ c isr ao cap acc vs, k = zs.length + 1 - c ∧ v = .bool isr ∧ SetInv w B b sao scap zs s (B + 1) false r wr c isr ao cap acc vs)
    case atStart => exact ⟨c0, false, _, _, [], [], rfl, rfl, HO.out, HS.out, HG.out, HR.out, (fun h => by cases h), Nat.zero_le _, blk_lt HO.out.blk⟩
    case round =>
      obtain ⟨c', isr, ao, cap, acc, vs, rfl, rfl, ho, hs, hg, hr', hpos, hle, hmlt⟩ := hrel
      obtain ⟨hc', hcase⟩ := setLoop_cases hr'
      have HOr := Lib.hid ho
      have HSr := Lib.hid hs
      have HGr := Lib.hid hg
      have HP := Lib.hid hpos
      have hlen : acc.length ≤ 4194304 := by omega
      clear ho hs hg hr' HO HS HG HR hpos
      rcases hcase with ⟨h93, hne, hrr⟩ | ⟨h45, hne, hr2⟩ | ⟨n1, n2, hr2⟩
      · have hp : 0 < acc.length := List.length_pos_iff.2 hne
        have H93 := Lib.hid h93
        have HRR := Lib.hid hrr
        clear h93 hne hrr
        go_wp2_with fail
        refine (peek_at HSr.out h0 H93.out).mono ?_
        rintro e w1 ⟨rfl, hs1, hg1⟩
        have HO1 := Lib.hid (HOr.out.call hg1 hbw.out)
        have HS1 := Lib.hid hs1
        have HG1 := Lib.hid (one_trans HGr.out hg1)
        have k1 := blk_cell HO1.out.blk 1 _ rfl
        clear hs1 hg1
        go_wp2_with fail
        refine (next_at HS1.out (by omega) H93.out).mono ?_
        rintro e w2 ⟨rfl, hs2, hg2⟩
        have HO2 := Lib.hid (HO1.out.call hg2 hbw.out)
        have HS2 := Lib.hid hs2
        have HG2 := Lib.hid (one_trans HG1.out hg2)
        clear k1 hs2 hg2
        have k1 := blk_cell HO2.out.blk 1 _ rfl
        cases isr with
        | false =>
          go_wp2_with fail
          go_step3
          refine ⟨rfl, ?_⟩
          go_wp2_with fail
          go_ret
          refine ⟨_, _, rfl, ?_, ?_, HG2.out⟩
          · rw [HB.out, HRR.out]; exact HO2.out.fin
          · rw [HRR.out]; exact HS2.out
        | true =>
          have HA := Lib.hid ((HO2.out.own.alloc (.cells #[.int .i64 45] 114)).alloc (.cells #[.iface 112 (.pointer (some ⟨w2.heap.size, 0, none⟩))] 97))
          have f1 := blk_free HO2.out.blk 1
          go_wp2_with fail
          go_step3
          refine ⟨rfl, ?_⟩
          go_wp2_with (at_builtin; refine wpList_push _ rfl (.tmp 117) (.tmp 121) 140 rfl B 97 i0 .nilIface 1 16 Tryf.underlying140 hi hz0 hz1 hz2 rfl (by decide) _ _ _ _ rfl HA.out ⟨w2.heap.size + 1, 0, none⟩ 1 1 [.iface 112 (.pointer (some ⟨w2.heap.size, 0, none⟩))] rfl rfl (fun j u hj => by have hsz : (w2.alloc (Obj.cells #[.int .i64 45] 114)).heap.size = w2.heap.size + 1 := (by simp); rw [← hsz]; exact cell_one_new _ _ _ j u hj) (fun u hu => by simp at hu; subst hu; rfl) (by decide) (by unfold maxLen; omega) (by omega) (by have := HO2.out.hm; have := blk_lt HO2.out.blk; simp; omega) ?_; intro g1 c1 w3 hown' hgrow hwhere; have HO' := Lib.hid hown'; have HGw := Lib.hid hgrow; have HWh := Lib.hid hwhere; clear hown' hgrow hwhere; have k3 : w3.cell? ⟨B + 1, 1, none⟩ = some (.slice ao acc.length cap) := blk_cell (blk_grown (blk_alloc (blk_alloc HO2.out.blk _) _) HGw.out (fun e => by have := HO2.out.row _ e.symm; omega)) 1 _ rfl; have f3 : w3.frozen? ⟨B + 1, 1, none⟩ = false := blk_free (blk_grown (blk_alloc (blk_alloc HO2.out.blk _) _) HGw.out (fun e => by have := HO2.out.row _ e.symm; omega)) 1)
          go_ret
          have HF := (HO2.out.alloc (.cells #[.int .i64 45] 114)).push (e := .chr 45) ⟨w2.heap.size, rfl, by have := HO2.out.row; have := blk_lt HO2.out.blk; have := HO2.out.hm; rintro (h | h | h); omega; omega; have := (HO2.out.row _ h).2.2; omega, blk_new _ _⟩ HGw.out HO'.out (HWh.out.imp id (fun h => by simp at h; simp; omega))
          refine ⟨_, _, rfl, ?_, ?_, ?_⟩
          · rw [HB.out, HRR.out]; exact HF.fin
          · rw [HRR.out]
            exact (((HS2.out.grownAlloc _).grownAlloc _).push (B := B) HGw.out (fun x hx => (HO2.out.row x hx).2.1) hbw.out hsrc.out).setFar (B := B) (by omega) hbw.out hsrc.out
          · exact one_setCell (one_push (one_alloc (one_alloc HG2.out _) _) HGw.out (fun x hx => by have := (HO2.out.row x hx).2.1; have := HB.out; omega)) (.inr (by have := HB.out; simp; omega)) _
      · have hp : 0 < acc.length := List.length_pos_iff.2 hne
        have H45 := Lib.hid h45
        have HR2 := Lib.hid hr2
        clear h45 hne hr2
        go_wp2_with fail
        refine (peek_at HSr.out h0 H45.out).mono ?_
        rintro e w1 ⟨rfl, hs1, hg1⟩
        have HO1 := Lib.hid (HOr.out.call hg1 hbw.out)
        have HS1 := Lib.hid hs1
        have HG1 := Lib.hid (one_trans HGr.out hg1)
        have k1 : w1.cell? ⟨B + 1, 1, none⟩ = some (.slice ao acc.length cap) := blk_cell HO1.out.blk 1 _ rfl
        clear hs1 hg1
        go_wp2_with fail
        refine (next_at HS1.out (by omega) H45.out).mono ?_
        rintro e w2 ⟨rfl, hs2, hg2⟩
        have HO2 := Lib.hid (HO1.out.call hg2 hbw.out)
        have HS2 := Lib.hid hs2
        have HG2 := Lib.hid (one_trans HG1.out hg2)
        clear k1 hs2 hg2
        go_wp2_with fail
        go_roundg (zs.length + 1 - (c' + 1))
        case measure => omega
        case rel => exact ⟨c' + 1, true, ao, cap, acc, vs, rfl, rfl, HO2.out, HS2.out, HG2.out, HR2.out, fun _ => hp, by omega, blk_lt HO2.out.blk⟩
      · obtain ⟨z, hz⟩ : ∃ z, chr zs c' = z := ⟨_, rfl⟩
        rw [hz] at n1 n2
        have HZ := Lib.hid hz
        have HR2 := Lib.hid hr2
        have hzb := chr_mem HSr.out.byte hc'
        rw [hz] at hzb
        clear hz hr2
        have hways : (z = 93 ∧ acc.length ≤ 0) ∨ (z = 45 ∧ acc.length ≤ 0) ∨ ((z == 93) = false ∧ (z == 45) = false ∧ (z == -1) = false) := by
          by_cases e1 : z = 93
          · left; exact ⟨e1, by have : acc = [] := (Classical.not_not.1 fun h => n1 ⟨e1, h⟩); simp [this]⟩
          · by_cases e2 : z = 45
            · right; left; exact ⟨e2, by have : acc = [] := (Classical.not_not.1 fun h => n2 ⟨e2, h⟩); simp [this]⟩
            · right; right; exact ⟨by simpa using e1, by simpa using e2, by simp; omega⟩
        have HW := Lib.hid hways
        have hec := elem_lt zs c'
        have hec1 := hec.1
        have hec2 := hec.2
        clear n1 n2 hzb hec hways
        have hpn : isr = true → 0 < acc.length := HP.out
        have HIS : Hid (isr = true → ∃ N, acc.length = N + 1) := Lib.hid (fun h => ⟨acc.length - 1, by have := hpn h; omega⟩)
        clear hpn
        rcases HW.out with ⟨rfl, hz0'⟩ | ⟨rfl, hz0'⟩ | ⟨y1, y2, y3⟩
        all_goals
          go_wp2_with fail
          refine (peek_at HSr.out h0 HZ.out).mono ?_
          rintro e w1 ⟨rfl, hs1, hg1⟩
          have HO1 := Lib.hid (HOr.out.call hg1 hbw.out)
          have HS1 := Lib.hid hs1
          have HG1 := Lib.hid (one_trans HGr.out hg1)
          have k1 : w1.cell? ⟨B + 1, 1, none⟩ = some (.slice ao acc.length cap) := blk_cell HO1.out.blk 1 _ rfl
          have f1 : w1.frozen? ⟨B + 1, 1, none⟩ = false := blk_free HO1.out.blk 1
          clear hs1 hg1
          go_wp2_with fail
        all_goals
          have HSd := Lib.hid HS1.out.drew'
          go_cut [] (fun wc => AfterEl w B b sao scap zs s (B + 1) false acc vs (elem zs c') wc)
          case first =>
            go_region_law ((first | (refine step_append_lies _ (by rfl) _ _ _ (by rfl) B 97 i0 _ 1 16 Tryf.underlying140 hi hz0 hz1 hz2 rfl (by omega) (.slice ao acc.length cap) acc.length vs (by rfl) (HO2.out.own.alloc _) ⟨w2.heap.size, 0, none⟩ 1 1 [.iface T (.pointer pa)] (by rfl) (by rfl) (cell_one_new _ _ _) (by simp [Value.oneCell']) (by omega) (by unfold maxLen; omega) (by omega) (by have := HO2.out.hm; have := blk_lt HO2.out.blk; simp; omega) (w2.heap.size + 1) (by simp) ?_; intro g1 c1 w3 hown hgrow hat hlt3; have HOw := Lib.hid hown; have HGw := Lib.hid hgrow; have HAt := Lib.hid hat; clear hown hgrow hat hlt3; have k3 : w3.cell? ⟨B + 1, 1, none⟩ = some (.slice ao acc.length cap) := blk_cell (blk_grown (blk_alloc HO2.out.blk _) HGw.out (fun e => by have := HO2.out.row _ (by rw [ownBlock_slice] at e; exact e.symm); omega)) 1 _ rfl; have f3 : w3.frozen? ⟨B + 1, 1, none⟩ = false := blk_free (blk_grown (blk_alloc HO2.out.blk _) HGw.out (fun e => by have := HO2.out.row _ (by rw [ownBlock_slice] at e; exact e.symm); omega)) 1) | (go_simp; go_at_call 30; refine (parseEl_any HSd.out hc').mono ?_; rintro e w2 ⟨T, pa, rfl, h1, h2, h3⟩; have HE := Lib.hid h1; have HS2 := Lib.hid h2; have HG2 := Lib.hid (one_trans (one_drew HG1.out) h3); have HO2 := Lib.hid (SetO.call (w := w1.drew) (HO1.out.drewN 1) h3 hbw.out); have HL2 := Lib.hid h3.size; clear h1 h2 h3; have k2 : w2.cell? ⟨B + 1, 1, none⟩ = some (.slice ao acc.length cap) := blk_cell HO2.out.blk 1 _ rfl; have n2 : ∀ o, (w2.alloc o).cell? ⟨B + 1, 1, none⟩ = some (.slice ao acc.length cap) := fun o => blk_cell (blk_alloc HO2.out.blk o) 1 _ rfl)))
            all_goals
              go_wp2_with fail
              go_meet
              case rel => exact afterEl_mk HB.out hbw.out hsrc.out HO1.out HL2.out HO2.out HE.out HS2.out HG2.out HGw.out HOw.out HAt.out
        all_goals
          obtain ⟨g1, c1, v, ho2, hs2, hg2⟩ := hcut
          have HO2 := Lib.hid ho2
          have HS2 := Lib.hid hs2
          have HG2 := Lib.hid hg2
          clear ho2 hs2 hg2
          cases isr with
          | false =>
            go_wp2_with fail
            go_roundg (zs.length + 1 - (elem zs c').2)
            case measure => omega
            case rel => exact ⟨(elem zs c').2, false, some ⟨g1, 0, none⟩, c1, acc ++ [(elem zs c').1], vs ++ [v], rfl, rfl, HO2.out, HS2.out, HG2.out, HR2.out, (fun h => by cases h), by simp; omega, blk_lt HO2.out.blk⟩
          | true =>
            first
            | (exfalso; have := HP.out rfl; omega)
            | (
                obtain ⟨N, hN⟩ := HIS.out rfl
                have hlen2 : (acc ++ [(elem zs c').1]).length = N + 2 := by simp; omega
                have k1 : wc.cell? ⟨B + 1, 1, none⟩ = some (.slice (some ⟨g1, 0, none⟩) (N + 2) c1) := by rw [← hlen2]; exact blk_cell HO2.out.blk 1 _ rfl
                obtain ⟨lt1, lt2, lt3⟩ := last_two (e := (elem zs c').1) hN
                obtain ⟨vb, hvb, heb⟩ := HO2.out.els.get N _ lt1
                obtain ⟨ve, hve, hee⟩ := HO2.out.els.get (N + 1) _ lt2
                obtain ⟨Tb, pb, rfl⟩ := heb.form
                obtain ⟨Te, pe, rfl⟩ := hee.form
                have kb : wc.cell? ⟨g1, N, none⟩ = some (.iface Tb (.pointer pb)) := (HO2.out.own.cellAt N (by omega)).trans hvb
                have ke : wc.cell? ⟨g1, N + 1, none⟩ = some (.iface Te (.pointer pe)) := (HO2.out.own.cellAt (N + 1) (by omega)).trans hve
                have HLT := Lib.hid lt3
                have HEB := Lib.hid heb
                have HEE := Lib.hid hee
                have HVB := Lib.hid hvb
                have HVE := Lib.hid hve
                have HL2 := Lib.hid hlen2
                have HN := Lib.hid hN
                have hNb : N ≤ 4194304 := by omega
                clear heb hee hvb hve hlen2 hN lt1 lt2 lt3
                have s0 : (0 : Int) ≤ (N : Int) := Int.natCast_nonneg _
                have s1 : (N : Int) < (N : Int) + 2 := by omega
                have s2 : (N : Int) + 1 < (N : Int) + 2 := by omega
                have s3 : (0 : Int) ≤ (N : Int) + 1 := by omega
                have s4 : ((N : Int) + 1).toNat = N + 1 := by omega
                have s5 : IntKind.i64.wrap ((N : Int) + 2 - 2) = (N : Int) := by rw [IntWalk.i64_in _ (by omega)]; omega
                have s6 : IntKind.i64.wrap ((N : Int) + 2 - 1) = (N : Int) + 1 := by rw [IntWalk.i64_in _ (by omega)]; omega
                go_wp2_with fail
                go_quiet (fail)
                go_wp2_with fail
                go_quiet (fail)
                generalize hwd : World.drewN (World.drewN wc _) _ = wd
                have HO3 : Hid (SetO wd B (B + 1) false (some ⟨g1, 0, none⟩) c1 (acc ++ [(elem zs c').1]) (vs ++ [v])) := by subst hwd; exact Lib.hid ((HO2.out.drewN _).drewN _)
                have HS3 : Hid (Scan wd b sao scap zs (elem zs c').2 s) := by subst hwd; exact Lib.hid ((HS2.out.drewN' _).drewN' _)
                have HG3 : Hid (w.grownBy wd (some b)) := by subst hwd; exact Lib.hid (one_drewN (one_drewN HG2.out _) _)
                have HWD : Hid (∀ (k : Nat) (o : Obj), wc.heap[k]? = some o → wd.heap[k]? = some o) := by subst hwd; exact Lib.hid (fun _ _ h => h)
                clear hwd
                have k1' : wd.cell? ⟨B + 1, 1, none⟩ = some (.slice (some ⟨g1, 0, none⟩) (N + 2) c1) := by rw [← HL2.out]; exact blk_cell HO3.out.blk 1 _ rfl
                have f1' : wd.frozen? ⟨B + 1, 1, none⟩ = false := blk_free HO3.out.blk 1
                have s7 : IntKind.i64.wrap (N : Int) = (N : Int) := by rw [IntWalk.i64_in _ (by omega)]
                have hcapN : N + 2 ≤ c1 := by have := HL2.out; rw [← this]; exact owns_cap HO3.out.own
                have s8 : (N : Int) ≤ (c1 : Int) := by omega
                go_wp2_with fail
                go_still_tail 14, (by kernel_rfl)
                change wpList _ _ _ _ _ wd.drew
                have HC := Lib.hid (HO3.out.cut (k := N) (by simp; have := HN.out; omega))
                have hgm : g1 ≠ B + 1 := (HO3.out.row g1 rfl).1
                have HGM := Lib.hid hgm
                have hX3 : ∀ k, k < B ∨ k = B + 1 ∨ blkOf (some (⟨g1, 0, none⟩ : Addr)) = some k → k < wd.heap.size := fun k hk => by
                  rcases hk with hk | hk | hk
                  · have := HO3.out.row g1 rfl; omega
                  · have := blk_lt HO3.out.blk; omega
                  · exact (HO3.out.row k hk).2.2
                have HX3 := Lib.hid hX3
                have hsz : (wd.setCell ⟨B + 1, 1, none⟩ (.slice (some ⟨g1, 0, none⟩) N c1)).heap.size = wd.heap.size := by simp [World.setCell]
                have HSZ := Lib.hid hsz
                have HEW : Hid (ElAt (fun k => k < B ∨ k = B + 1 ∨ blkOf (some (⟨g1, 0, none⟩ : Addr)) = some k) (((wd.setCell ⟨B + 1, 1, none⟩ (.slice (some ⟨g1, 0, none⟩) N c1)).alloc (.cells #[.iface Tb (.pointer pb), .iface Te (.pointer pe)] 145)).alloc (.cells #[.iface 143 (.pointer (some ⟨wd.heap.size, 0, none⟩))] 97)).drew (.rng (acc.getLast?.getD (.chr 0)) (elem zs c').1) (.iface 143 (.pointer (some ⟨wd.heap.size, 0, none⟩)))) := by
                  have kp : ∀ (k : Nat) (o : Obj), ¬ (k < B ∨ k = B + 1 ∨ blkOf (some (⟨g1, 0, none⟩ : Addr)) = some k) → wc.heap[k]? = some o → (wd.setCell ⟨B + 1, 1, none⟩ (.slice (some ⟨g1, 0, none⟩) N c1)).heap[k]? = some o := fun k o hX ho => by
                    rw [Below.heap_setCell _ _ _ _ (show k ≠ B + 1 from fun e => hX (.inr (.inl e)))]
                    exact HWD.out k o ho
                  have := rng_mk (o2 := .cells #[.iface 143 (.pointer (some ⟨wd.heap.size, 0, none⟩))] 97) (HEB.out.kept kp (fun _ _ h => h)) (HEE.out.kept kp (fun _ _ h => h)) (fun h => by have := hX3 _ h; rw [hsz] at this; omega)
                  rw [hsz] at this
                  exact Lib.hid this
                have HOW := Lib.hid (((HC.out.alloc (.cells #[.iface Tb (.pointer pb), .iface Te (.pointer pe)] 145)).alloc (.cells #[.iface 143 (.pointer (some ⟨wd.heap.size, 0, none⟩))] 97)).drewN 1)
                have htl : ((acc ++ [(elem zs c').1]).take N).length = N := by simp; have := HN.out; omega
                have HTL := Lib.hid htl
                have hown0 := HOW.out.own
                rw [htl] at hown0
                have HOWN := Lib.hid hown0
                have hszB : B ≤ wd.heap.size := by have := HO3.out.row g1 rfl; omega
                clear hgm s5 s6 s7 hX3 hsz htl hown0
                have HNA : Hid (∀ (j : Nat) (u : Value), [Value.iface 143 (.pointer (some ⟨wd.heap.size, 0, none⟩))][j]? = some u → ((((wd.setCell ⟨B + 1, 1, none⟩ (.slice (some ⟨g1, 0, none⟩) N c1)).alloc (.cells #[.iface Tb (.pointer pb), .iface Te (.pointer pe)] 145)).alloc (.cells #[.iface 143 (.pointer (some ⟨wd.heap.size, 0, none⟩))] 97)).drew).cell? ((⟨wd.heap.size + 1, 0, none⟩ : Addr).add j) = some u) := Lib.hid (news_at (by simp [World.setCell]))
                go_wp2_with (at_builtin; refine wpList_push _ rfl (.tmp 102) (.tmp 108) 140 rfl B 97 i0 .nilIface 1 16 Tryf.underlying140 hi hz0 hz1 hz2 rfl (by decide) _ _ _ _ rfl HOWN.out ⟨wd.heap.size + 1, 0, none⟩ 1 1 [.iface 143 (.pointer (some ⟨wd.heap.size, 0, none⟩))] rfl rfl HNA.out (fun u hu => by simp at hu; subst hu; rfl) (by decide) (by unfold maxLen; omega) (by omega) (by simp [World.setCell]; omega) ?_; intro g2 c2 w3 hown' hgrow hwhere; have HO' := Lib.hid hown'; have HGw := Lib.hid hgrow; have HWh := Lib.hid hwhere; clear hown' hgrow hwhere; have k3 : w3.cell? ⟨B + 1, 1, none⟩ = some (.slice (some ⟨g1, 0, none⟩) N c1) := (blk_cell (blk_grown HOW.out.blk HGw.out (fun e => HGM.out (by simp only [blkOf, Option.map_some, Option.some.injEq] at e; exact e.symm))) 1 _ rfl).trans (by rw [HTL.out]; rfl); have f3 : w3.frozen? ⟨B + 1, 1, none⟩ = false := blk_free (blk_grown HOW.out.blk HGw.out (fun e => HGM.out (by simp only [blkOf, Option.map_some, Option.some.injEq] at e; exact e.symm))) 1)
                go_roundg (zs.length + 1 - (elem zs c').2)
                case measure => omega
                case rel =>
                  have HF := HOW.out.pushN HTL.out HEW.out HGw.out HO'.out HWh.out
                  have hlen4 : ((acc ++ [(elem zs c').1]).take N ++ [El.rng (acc.getLast?.getD (.chr 0)) (elem zs c').1]).length = N + 1 := by simp only [List.length_append, HTL.out]; rfl
                  refine ⟨(elem zs c').2, false, some ⟨g2, 0, none⟩, c2, (acc ++ [(elem zs c').1]).take N ++ [.rng (acc.getLast?.getD (.chr 0)) (elem zs c').1], (vs ++ [v]).take N ++ [.iface 143 (.pointer (some ⟨wd.heap.size, 0, none⟩))], rfl, rfl, HF, ?_, ?_, ?_, (fun h => by cases h), ?_, blk_lt HF.blk⟩
                  · exact (((((HS3.out.setFar (B := B) (by omega) hbw.out hsrc.out).grownAlloc _).grownAlloc _).drew').push (B := B) HGw.out (fun x hx => (HO3.out.row x hx).2.1) hbw.out hsrc.out).setFar (B := B) (by omega) hbw.out hsrc.out
                  · exact one_setCell (one_push (one_drew (one_alloc (one_alloc (one_setCell HG3.out (.inr (by have := HB.out; simp; omega)) _) _) _)) HGw.out (fun x hx => by have := (HO3.out.row x hx).2.1; have := HB.out; omega)) (.inr (by have := HB.out; simp; omega)) _
                  · have := HR2.out; simp only [if_true] at this; rw [HLT.out] at this; exact this
                  · rw [hlen4]; have := HN.out; omega)
end

end Go.Proofs.YtcfhhcjcnafcjaaFmt
