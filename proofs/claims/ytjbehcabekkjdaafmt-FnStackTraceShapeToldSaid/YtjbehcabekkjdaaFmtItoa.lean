/-
  The contract of zzItoa: the decimal numeral. No condition.
-/
import Derived.Test.YtjbehcabekkjdaaFmtFmt
import Derived.Test.YtjbehcabekkjdaaFmtCopy
import Derived.Laws.IdiomStrings
import Derived.Lib.ItoaNum
import Derived.Lib.ItoaLen
import Derived.IntWalk
import Derived.Stop.FmtTextKit
namespace Go.Proofs.YtjbehcabekkjdaaFmt
open Go.RowKit Go.Kit
set_option linter.unusedVariables false
set_option linter.unusedSimpArgs false

/-- The numeral under construction: what is left, the digits laid. -/
def DigS (u0 v : Nat) (S : List UInt8) : Prop := (if v = 0 then S else Lib.decDigits v ++ S) = Lib.decDigits u0
theorem DigS.step {u0 v : Nat} {S : List UInt8} (h : DigS u0 v S) (hv : 0 < v) : DigS u0 (v / 10) (UInt8.ofNat (48 + v % 10) :: S) := by
  unfold DigS at h ⊢
  rw [if_neg (by omega)] at h
  by_cases h10 : v < 10
  · rw [if_pos (by omega)]
    rw [Lib.decDigits, dif_pos h10] at h
    rw [Nat.mod_eq_of_lt h10]
    exact h
  · rw [if_neg (by omega)]
    rw [Lib.decDigits, dif_neg h10, List.append_assoc] at h
    exact h
theorem DigS.len {u0 v : Nat} {S : List UInt8} (h : DigS u0 v S) (hv : 0 < v) : S.length + 1 ≤ (Lib.decDigits u0).length := by
  unfold DigS at h
  rw [if_neg (by omega)] at h
  rw [← h, List.length_append, Lib.decDigits_length]
  have := Lib.nDigits_pos v
  omega
theorem DigS.done {u0 : Nat} {S : List UInt8} (h : DigS u0 0 S) : S = Lib.decDigits u0 := by
  unfold DigS at h; rwa [if_pos rfl] at h
theorem dig_len {n : Int} (h0 : -9223372036854775808 ≤ n) (h1 : n ≤ 9223372036854775807) : (Lib.decDigits n.natAbs).length ≤ 21 := by
  have h := Lib.itoa_length_le n h0 h1
  unfold Lib.itoa at h
  split at h
  · simp at h; omega
  · rw [show n.natAbs = n.toNat by omega]; exact h
/-- The bytes of S stand at the end of block b. -/
def TailAt (w : World) (b : Nat) (S : List UInt8) : Prop := ∀ j (h : j < S.length), w.cell? ⟨b, 24 - S.length + j, none⟩ = some (.int .u8 (S[j].toNat : Int))
theorem TailAt.cons {w : World} {b i : Nat} {S : List UInt8} {x : UInt8} {u : Value} (h : TailAt w b S) (hi : i + 1 + S.length = 24) (hu : w.cell? ⟨b, i, none⟩ = some u) : TailAt (w.setCell ⟨b, i, none⟩ (.int .u8 (x.toNat : Int))) b (x :: S) := by
  intro j hj
  cases j with
  | zero =>
    simp only [List.length_cons, Nat.add_zero, List.getElem_cons_zero]
    rw [show 24 - (S.length + 1) = i by omega]
    exact World.cell?_setCell_same _ _ _ hu
  | succ j =>
    have hj' : j < S.length := by simpa using hj
    simp only [List.length_cons, List.getElem_cons_succ]
    have := h j hj'
    rw [show 24 - (S.length + 1) + (j + 1) = 24 - S.length + j by omega]
    exact (World.cell?_setCell_other _ _ _ _ (fun e => by injection e; omega)).trans this
theorem tail_conv {w : World} {b i : Nat} {S : List UInt8} (h : TailAt w b S) (hi : i + S.length = 24) : (convert 100 9 (.slice (some ⟨b, i, none⟩) (24 - i) (24 - i))).run Tryf.prog w = .ok (.string ⟨S.toArray⟩) w := by
  have := run_convert_bytes_back (P := Tryf.prog) w 100 9 5 ⟨b, i, none⟩ (24 - i) S Tryf.underlying100 Tryf.underlying5 Tryf.underlying9 (fun j hj => by
    rw [addr_add, show i + j = 24 - S.length + j by omega]
    exact h j hj)
  rwa [show S.length = 24 - i by omega] at this
theorem size24 (w : World) : (sizeOf (Tryf.prog.elem 99)).run Tryf.prog w = .ok 1 w := by kernel_rfl
theorem len24 : Tryf.prog.arrayLen 99 = 24 := by kernel_rfl
theorem slice24 {b i : Nat} (hi : i < 24) (w : World) : (Instr.sliceAt 99 (.pointer (some ⟨b, 0, none⟩)) (some (.int .i64 (i : Int))) none none).run Tryf.prog w = .ok (.slice (some ⟨b, i, none⟩) (24 - i) (24 - i)) w := by
  have h := run_sliceAt_array_l (P := Tryf.prog) w 99 ⟨b, 0, none⟩ (by kernel_rfl) .i64 (i : Int) (by omega) (by rw [len24]; omega)
  rw [h, size24, len24]
  simp only [Result.andThen_ok, slicedAt, Int.toNat_natCast]
  rw [if_neg (by omega), Nat.mul_one, addr_add, Nat.zero_add]
/-- What holds at the loop's head. -/
def IRel (w : World) (u0 : Nat) (v4 v6 : Value) (wr : World) : Prop :=
  ∃ (v i : Nat) (S : List UInt8) (cs : Array Value), v4 = .int .u64 v ∧ v6 = .int .i64 i ∧ DigS u0 v S ∧ v ≤ 9223372036854775808 ∧ i + S.length = 24 ∧ wr.heap[w.heap.size]? = some (.cells cs 99 (0, 0)) ∧ cs.size = 24 ∧ TailAt wr w.heap.size S ∧ Below w.heap.size w wr
theorem irel_start (w : World) {u0 : Nat} (hu : 0 < u0) (hb : u0 ≤ 9223372036854775808) {cs : Array Value} (hc : cs.size = 24) : IRel w u0 (.int .u64 u0) (.int .i64 24) (w.alloc (.cells cs 99)) :=
  ⟨u0, 24, [], cs, rfl, rfl, by unfold DigS; rw [if_neg (by omega), List.append_nil], hb, rfl, blk_new _ _, hc, fun j hj => by simp at hj, (Below.refl _ _).alloc (Nat.le_refl _) _⟩
set_option maxRecDepth 100000 in
set_option maxHeartbeats 2000000 in
theorem itoa_any (n : Int) (h0 : -9223372036854775808 ≤ n) (h1 : n ≤ 9223372036854775807) (w : World) : Calls Tryf.prog 32 #[.int .i64 n] w fun e w' => e = .returned (.string ⟨(Lib.itoa n).toArray⟩) ∧ Below w.heap.size w w' := by
  by_cases hz : n = 0
  · subst hz
    go_enter Tryf.func32, Tryf.ntmps32
    go_wp2_with fail
    go_ret
    exact ⟨by simp [Lib.itoa, Lib.decDigits], Below.refl _ _⟩
  · have hl := dig_len h0 h1
    obtain ⟨u0, hu0⟩ : ∃ u0, n.natAbs = u0 := ⟨_, rfl⟩
    rw [hu0] at hl
    have tz : (n == 0) = false := by simp [hz]
    have hup : 0 < u0 := by omega
    have hub : u0 ≤ 9223372036854775808 := by omega
    by_cases hn : n < 0
    · have hit : Lib.itoa n = 45 :: Lib.decDigits u0 := by unfold Lib.itoa; rw [if_pos hn, ← hu0]
      have HIT := Lib.hid hit
      obtain ⟨m, hm⟩ : ∃ m, n + 18446744073709551616 = m := ⟨_, rfl⟩
      have hwn : IntKind.u64.wrap n = m := by rw [IntKind.wrap_u64]; omega
      have hwm : IntKind.u64.wrap (-m) = (u0 : Int) := by rw [IntKind.wrap_u64]; omega
      have tn : decide (n < 0) = true := decide_eq_true hn
      clear hit hu0 hz h0 h1 hm
      go_enter Tryf.func32, Tryf.ntmps32
      go_wp2_with fail
      clear hwn hwm
      go_loopw [4, 6] (fun v4 v6 wr => IRel w u0 v4 v6 wr) (fun v4 _ _ => (intOf v4).toNat)
      case atStart => exact irel_start w hup hub rfl
      case round =>
        obtain ⟨v, i, S, cs, rfl, rfl, hD, hv, hi, hbk, hcs, hT, hB⟩ := hrel
        have HBK := Lib.hid hbk
        have HT := Lib.hid hT
        have HB := Lib.hid hB
        clear hbk hT hB
        by_cases hv0 : 0 < v
        · have HD2 := Lib.hid (hD.step hv0)
          have hS := hD.len hv0
          obtain ⟨i, rfl⟩ : ∃ i', i = i' + 1 := ⟨i - 1, by omega⟩
          have hi24 : i < 24 := by omega
          have hu := blk_cell HBK.out i _ (Array.getElem?_eq_getElem (by omega))
          have hf := blk_free HBK.out i
          have hx : (UInt8.ofNat (48 + v % 10)).toNat = 48 + v % 10 := by simp [UInt8.toNat_ofNat']; omega
          have HT2 := Lib.hid (HT.out.cons (x := UInt8.ofNat (48 + v % 10)) (by omega) hu)
          rw [hx] at HT2
          have HBK2 := Lib.hid (blk_set HBK.out i (.int .u8 ((48 + v % 10 : Nat) : Int)))
          have HB2 := Lib.hid (HB.out.setCell (p := ⟨w.heap.size, i, none⟩) (Nat.le_refl _) (.int .u8 ((48 + v % 10 : Nat) : Int)))
          have h48 : ((48 + v % 10 : Nat) : Int) = 48 + (v : Int) % 10 := by omega
          rw [h48] at HT2 HBK2 HB2
          have t3 : IntKind.u8.wrap (48 + (v : Int) % 10) = 48 + (v : Int) % 10 := by rw [IntKind.wrap_u8]; omega
          have t5 : (0 : Int) < (v : Int) := by omega
          clear hD hx h48
          go_wp2_with fail
          go_roundw
          case rel => exact ⟨v / 10, i, UInt8.ofNat (48 + v % 10) :: S, _, by go_num, rfl, HD2.out, by omega, by simp; omega, HBK2.out, by simpa using hcs, HT2.out, HB2.out⟩
          case measure => simp [intOf]; omega
        · obtain rfl : v = 0 := by omega
          have HSD := Lib.hid hD.done
          have hi3 : 3 ≤ i := by rw [hD.done] at hi; omega
          obtain ⟨i, rfl⟩ : ∃ i', i = i' + 1 := ⟨i - 1, by omega⟩
          have hu := blk_cell HBK.out i _ (Array.getElem?_eq_getElem (by omega))
          have hf := blk_free HBK.out i
          have HT2 : Hid (TailAt (wr.setCell ⟨w.heap.size, i, none⟩ (.int .u8 45)) w.heap.size (45 :: S)) := Lib.hid (HT.out.cons (x := 45) (by omega) hu)
          have hcv := tail_conv HT2.out (i := i) (by simp; omega)
          have hsl := slice24 (b := w.heap.size) (i := i) (by omega)
          have HB2 := Lib.hid (HB.out.setCell (p := ⟨w.heap.size, i, none⟩) (Nat.le_refl _) (.int .u8 45))
          have t4 : IntKind.i64.wrap (24 - (i : Int)) = 24 - (i : Int) := by rw [IntWalk.i64_in _ (by omega)]
          clear hD
          go_wp2_with fail
          go_ret
          exact ⟨by rw [HIT.out, HSD.out]; rfl, HB2.out⟩
    · have hit : Lib.itoa n = Lib.decDigits u0 := by unfold Lib.itoa; rw [if_neg hn, ← hu0, show n.natAbs = n.toNat by omega]
      have hwn : IntKind.u64.wrap n = (u0 : Int) := by rw [IntKind.wrap_u64]; omega
      have tn : decide (n < 0) = false := decide_eq_false hn
      have HIT := Lib.hid hit
      clear hit hu0 hz h0 h1
      go_enter Tryf.func32, Tryf.ntmps32
      go_wp2_with fail
      clear hwn
      go_loopw [4, 6] (fun v4 v6 wr => IRel w u0 v4 v6 wr) (fun v4 _ _ => (intOf v4).toNat)
      case atStart => exact irel_start w hup hub rfl
      case round =>
        obtain ⟨v, i, S, cs, rfl, rfl, hD, hv, hi, hbk, hcs, hT, hB⟩ := hrel
        have HBK := Lib.hid hbk
        have HT := Lib.hid hT
        have HB := Lib.hid hB
        clear hbk hT hB
        by_cases hv0 : 0 < v
        · have HD2 := Lib.hid (hD.step hv0)
          have hS := hD.len hv0
          obtain ⟨i, rfl⟩ : ∃ i', i = i' + 1 := ⟨i - 1, by omega⟩
          have hi24 : i < 24 := by omega
          have hu := blk_cell HBK.out i _ (Array.getElem?_eq_getElem (by omega))
          have hf := blk_free HBK.out i
          have hx : (UInt8.ofNat (48 + v % 10)).toNat = 48 + v % 10 := by simp [UInt8.toNat_ofNat']; omega
          have HT2 := Lib.hid (HT.out.cons (x := UInt8.ofNat (48 + v % 10)) (by omega) hu)
          rw [hx] at HT2
          have HBK2 := Lib.hid (blk_set HBK.out i (.int .u8 ((48 + v % 10 : Nat) : Int)))
          have HB2 := Lib.hid (HB.out.setCell (p := ⟨w.heap.size, i, none⟩) (Nat.le_refl _) (.int .u8 ((48 + v % 10 : Nat) : Int)))
          have h48 : ((48 + v % 10 : Nat) : Int) = 48 + (v : Int) % 10 := by omega
          rw [h48] at HT2 HBK2 HB2
          have t3 : IntKind.u8.wrap (48 + (v : Int) % 10) = 48 + (v : Int) % 10 := by rw [IntKind.wrap_u8]; omega
          have t5 : (0 : Int) < (v : Int) := by omega
          clear hD hx h48
          go_wp2_with fail
          go_roundw
          case rel => exact ⟨v / 10, i, UInt8.ofNat (48 + v % 10) :: S, _, by go_num, rfl, HD2.out, by omega, by simp; omega, HBK2.out, by simpa using hcs, HT2.out, HB2.out⟩
          case measure => simp [intOf]; omega
        · obtain rfl : v = 0 := by omega
          have HSD := Lib.hid hD.done
          have hi3 : 3 ≤ i := by rw [hD.done] at hi; omega
          have hcv := tail_conv HT.out hi
          have hup2 : 0 < (Lib.decDigits u0).length := by rw [Lib.decDigits_length]; exact Lib.nDigits_pos u0
          have hsl := slice24 (b := w.heap.size) (i := i) (by rw [hD.done] at hi; omega)
          clear hD
          go_wp2_with fail
          go_ret
          exact ⟨by rw [HIT.out, HSD.out]; rfl, HB.out⟩
end Go.Proofs.YtjbehcabekkjdaaFmt
