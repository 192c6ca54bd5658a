/-
  The contracts of zzLineCount, zzUnfoldOK, zzNoNewline, intMin and intMax. Conditions as each states.
-/
import Derived.Test.YtjbehcabekkjdaaFmtTrace
namespace Go.Proofs.YtjbehcabekkjdaaFmt
open Go.RowKit Go.Kit
set_option linter.unusedVariables false
set_option linter.unusedSimpArgs false

theorem sumT_take_le {fs : List Fr} (ht : ∀ i, i < fs.length → 0 ≤ tailF fs[i]! ∧ tailF fs[i]! ≤ 65536) : ∀ k, k ≤ fs.length → 0 ≤ sumT (fs.take k) ∧ sumT (fs.take k) ≤ k * 65536
  | 0, _ => by simp [sumT]
  | k + 1, h => by
    have h1 := sumT_take_le ht k (by omega)
    have h2 := ht k (by omega)
    rw [take_snocF fs k (by omega), sumT_snoc]
    omega
set_option maxHeartbeats 1000000 in
theorem lineCount_any (a : Option Addr) (cap : Nat) (fs : List Fr) (w : World) (h : FrsAt w a fs) (hl : fs.length ≤ 4096) (ht : ∀ i, i < fs.length → 0 ≤ tailF fs[i]! ∧ tailF fs[i]! ≤ 65536) :
    Calls Tryf.prog 23 #[.slice a fs.length cap] w (IntPost w (1 + fs.length + sumT fs)) := by
  have HF := Lib.hid h
  have HT := Lib.hid ht
  have HS := Lib.hid (sumT_take_le ht)
  clear h ht
  obtain ⟨R, hR⟩ : ∃ R, (1 : Int) + fs.length + sumT fs = R := ⟨_, rfl⟩
  rw [hR]
  have HR := Lib.hid hR
  clear hR
  go_enter Tryf.func23, Tryf.ntmps23
  go_wp2_with fail
  go_loopw [3, 4] (fun v3 v4 wr => ∃ (k : Nat) (t : Int), k ≤ fs.length ∧ v4 = .int .i64 k ∧ v3 = .int .i64 t ∧ 0 ≤ t ∧ t ≤ 1 + (k : Int) * 65537 ∧ Hid (t = 1 + k + sumT (fs.take k)) ∧ Hid (Below w.heap.size w wr)) (fun _ v4 _ => fs.length - (intOf v4).toNat)
  case atStart => exact ⟨0, 1, Nat.zero_le _, rfl, rfl, by omega, by omega, Lib.hid (by simp [sumT]), Lib.hid (Below.refl _ _)⟩
  case round =>
    obtain ⟨k, t, hk, rfl, rfl, ht0, ht1, HTT, HB⟩ := hrel
    by_cases hlt : k < fs.length
    · obtain ⟨b, off, rfl, hbl, hc⟩ := HF.out.below HB.out (Nat.le_refl _) (by omega)
      obtain ⟨c0, c1, c2, c3, c4⟩ := hc k hlt
      obtain ⟨tl, htt⟩ : ∃ tl, tailF fs[k]! = tl := ⟨_, rfl⟩
      have htl := HT.out k hlt
      rw [htt] at htl
      have htl0 := htl.1
      have htl1 := htl.2
      have HT2 : Hid (t + (1 + tl) = 1 + ((k + 1 : Nat) : Int) + sumT (fs.take (k + 1))) := Lib.hid (by rw [take_snocF fs k hlt, sumT_snoc, htt, HTT.out]; omega)
      obtain ⟨⟨fg, fl, ft, nm, fc⟩, hfe⟩ : ∃ f, fs[k]! = f := ⟨_, rfl⟩
      rw [hfe] at c0 c1 c2 c3 c4 htt
      simp only at c0 c1 c2 c3 c4
      have HTL := Lib.hid htt
      have h5 : (k : Int) < (fs.length : Int) := by omega
      clear hc hfe htt htl hbl HTT
      go_wp2_with fail
      refine (tail_is ⟨fg, fl, ft, nm, fc⟩ wr HTL.out).mono ?_
      rintro e w3 ⟨rfl, hw3⟩
      have HB3 : Hid (Below w.heap.size w w3) := Lib.hid (by rw [hw3]; exact HB.out.alloc HB.out.size _)
      clear hw3
      go_wp2_with fail
      go_roundw
      case rel => exact ⟨k + 1, t + (1 + tl), by omega, by go_num, rfl, by omega, by omega, HT2, HB3⟩
      case measure => simp [intOf]; omega
    · obtain rfl : k = fs.length := by omega
      have hR : t = R := by rw [HTT.out, ← HR.out, List.take_length]
      subst hR
      have t1 : decide ((fs.length : Int) < (fs.length : Int)) = false := decide_eq_false (by omega)
      go_wp2_with fail
      go_ret
      exact ⟨rfl, HB.out⟩
/-- A bool; the memory that was there stands. -/
def BoolPost (w : World) (e : Ending) (w' : World) : Prop := ∃ v : Bool, e = .returned (.bool v) ∧ Below w.heap.size w w'
set_option maxHeartbeats 1000000 in
theorem unfoldOK_any (a : Option Addr) (cap : Nat) (fs : List Fr) (src : ByteArray) (w : World) (h : FrsAt w a fs) (hl : fs.length ≤ 4096) (ht : ∀ i, i < fs.length → 0 ≤ tailF fs[i]! ∧ tailF fs[i]! ≤ 65536) (hN : Names fs src) :
    Calls Tryf.prog 20 #[.slice a fs.length cap, .string src] w (BoolPost w) := by
  have HF := Lib.hid h
  have HC := Lib.hid (lineCount_any a cap fs w h hl ht)
  have hs := hN.2.1
  have HN := Lib.hid hN.2.2
  clear h ht hN
  generalize (1 : Int) + fs.length + sumT fs = T at *
  go_enter Tryf.func20, Tryf.ntmps20
  go_wp2_with fail
  refine HC.out.mono ?_
  rintro e w1 ⟨rfl, hb⟩
  have HB := Lib.hid hb
  have HF1 := Lib.hid (HF.out.below hb (Nat.le_refl _))
  clear hb
  go_wp2_with fail
  go_loop [6, 7] (fun v6 v7 => ∃ (k : Nat) (z : Int), k ≤ fs.length ∧ v7 = .int .i64 k ∧ v6 = .int .i64 z ∧ 0 ≤ z ∧ z ≤ 1048576) (fun _ v7 => fs.length - (intOf v7).toNat)
  case atStart => exact ⟨0, 0, Nat.zero_le _, rfl, rfl, by omega, by omega⟩
  case round =>
    obtain ⟨k, z, hk, rfl, rfl, hz0, hz1⟩ := hrel
    by_cases hlt : k < fs.length
    · obtain ⟨b, off, rfl, hbl, hc⟩ := HF1.out (by omega)
      obtain ⟨h0, h1, h2, h3, h4⟩ := hc k hlt
      have hnm := HN.out k hlt
      generalize fs[k]!.name = nm at h3 hnm
      have h5 : (k : Int) < (fs.length : Int) := by omega
      clear h0 h1 h2 h4 hc
      by_cases hz : z < nm.size
      · go_wp2_with fail
        go_round
        case rel => exact ⟨k + 1, nm.size, by omega, by go_num, rfl, by omega, by omega⟩
        case measure => simp [intOf]; omega
      · go_wp2_with fail
        go_round
        case rel => exact ⟨k + 1, z, by omega, by go_num, rfl, by omega, by omega⟩
        case measure => simp [intOf]; omega
    · obtain rfl : k = fs.length := by omega
      have t1 : decide ((fs.length : Int) < (fs.length : Int)) = false := decide_eq_false (by omega)
      have t2 : ((2 * (src.size : Int) + z + 64) == 0) = false := beq_eq_false_iff_ne.2 (by omega)
      go_wp2_with fail
      go_ret
      exact ⟨_, rfl, HB.out⟩
theorem no_of {s : ByteArray} (h : ∀ (j : Nat) (hj : j < s.size), (s[j]'hj).toNat ≠ 10) : NoNL s.data.toList := fun hm => by
  obtain ⟨j, hj, e⟩ := List.mem_iff_getElem.1 hm
  have hj2 : j < s.size := by simpa using hj
  refine h j hj2 ?_
  have : s[j]'hj2 = 10 := by rw [← e]; rfl
  rw [this]
  rfl
theorem upto_step {s : ByteArray} {k : Nat} (h : ∀ (j : Nat) (hj : j < s.size), j < k → (s[j]'hj).toNat ≠ 10) (hk : k < s.size) (hb : (s[k]'hk).toNat ≠ 10) : ∀ (j : Nat) (hj : j < s.size), j < k + 1 → (s[j]'hj).toNat ≠ 10 := fun j hj hjk => by
  by_cases e : j = k
  · subst e; exact hb
  · exact h j hj (by omega)
set_option maxHeartbeats 1000000 in
theorem noNL_any (a : Option Addr) (cap : Nat) (fs : List Fr) (src : ByteArray) (w : World) (h : FrsAt w a fs) (hN : Names fs src) :
    Calls Tryf.prog 21 #[.slice a fs.length cap, .string src] w (SomeB (NoNL src.data.toList ∧ ∀ i, i < fs.length → NoNL fs[i]!.name.data.toList) w) := by
  have HF := Lib.hid h
  have hs := hN.2.1
  have hl := hN.1
  have HN := Lib.hid hN.2.2
  clear h hN
  obtain ⟨P, hP⟩ : ∃ P : Prop, (NoNL src.data.toList ∧ ∀ i, i < fs.length → NoNL fs[i]!.name.data.toList) = P := ⟨_, rfl⟩
  rw [hP]
  have HP := Lib.hid hP
  clear hP
  go_enter Tryf.func21, Tryf.ntmps21
  go_wp2_with fail
  go_loop [5] (fun v5 => ∃ k : Nat, k ≤ src.size ∧ v5 = .int .i64 k ∧ Hid (∀ (j : Nat) (hj : j < src.size), j < k → (src[j]'hj).toNat ≠ 10)) (fun v5 => src.size - (intOf v5).toNat)
  case atStart => exact ⟨0, Nat.zero_le _, rfl, Lib.hid (fun j _ h => absurd h (Nat.not_lt_zero _))⟩
  case round =>
    obtain ⟨k, hk, rfl, HA⟩ := hrel
    by_cases hlt : k < src.size
    · have h5 : (k : Int) < (src.size : Int) := by omega
      by_cases hb : (src[k]'hlt).toNat = 10
      · have tb : (((src[k]'hlt).toNat : Int) == 10) = true := by rw [hb]; rfl
        go_wp2_with fail
        go_ret
        exact someB_no
      · have tb : (((src[k]'hlt).toNat : Int) == 10) = false := beq_eq_false_iff_ne.2 (by omega)
        have HA2 := Lib.hid (upto_step HA.out hlt hb)
        clear hb
        go_wp2_with fail
        go_round
        case rel => exact ⟨k + 1, by omega, by go_num, HA2⟩
        case measure => simp [intOf]; omega
    · obtain rfl : k = src.size := by omega
      have HS : Hid (NoNL src.data.toList) := Lib.hid (no_of fun j hj => HA.out j hj hj)
      clear HA
      have t0 : decide ((src.size : Int) < (src.size : Int)) = false := decide_eq_false (by omega)
      go_wp2_with fail
      go_loop [6] (fun v6 => ∃ k : Nat, k ≤ fs.length ∧ v6 = .int .i64 k ∧ Hid (∀ i, i < k → NoNL fs[i]!.name.data.toList)) (fun v6 => fs.length - (intOf v6).toNat)
      case atStart => exact ⟨0, Nat.zero_le _, rfl, Lib.hid (fun j h => absurd h (Nat.not_lt_zero _))⟩
      case round =>
        obtain ⟨m, hm, rfl, HM⟩ := hrel
        by_cases hlt : m < fs.length
        · obtain ⟨b, off, rfl, hbl, hc⟩ := HF.out (by omega)
          obtain ⟨h0, h1, h2, h3, h4⟩ := hc m hlt
          have hnm := HN.out m hlt
          obtain ⟨nm, hnme⟩ : ∃ nm, fs[m]!.name = nm := ⟨_, rfl⟩
          rw [hnme] at h3 hnm
          have HNM := Lib.hid hnme
          have h5 : (m : Int) < (fs.length : Int) := by omega
          clear h0 h1 h2 h4 hc hnme
          go_wp2_with fail
          go_loop [8] (fun v8 => ∃ k : Nat, k ≤ nm.size ∧ v8 = .int .i64 k ∧ Hid (∀ (j : Nat) (hj : j < nm.size), j < k → (nm[j]'hj).toNat ≠ 10)) (fun v8 => nm.size - (intOf v8).toNat)
          case atStart => exact ⟨0, Nat.zero_le _, rfl, Lib.hid (fun j _ h => absurd h (Nat.not_lt_zero _))⟩
          case round =>
            obtain ⟨k, hk, rfl, HA⟩ := hrel
            by_cases hlt2 : k < nm.size
            · have h6 : (k : Int) < (nm.size : Int) := by omega
              by_cases hb : (nm[k]'hlt2).toNat = 10
              · have tb : (((nm[k]'hlt2).toNat : Int) == 10) = true := by rw [hb]; rfl
                go_wp2_with fail
                go_ret
                exact someB_no
              · have tb : (((nm[k]'hlt2).toNat : Int) == 10) = false := beq_eq_false_iff_ne.2 (by omega)
                have HA2 := Lib.hid (upto_step HA.out hlt2 hb)
                clear hb
                go_wp2_with fail
                go_round
                case rel => exact ⟨k + 1, by omega, by go_num, HA2⟩
                case measure => simp [intOf]; omega
            · obtain rfl : k = nm.size := by omega
              have HS2 : Hid (∀ i, i < m + 1 → NoNL fs[i]!.name.data.toList) := Lib.hid (fun i hi => by
                by_cases e : i = m
                · subst e; rw [HNM.out]; exact no_of fun j hj => HA.out j hj hj
                · exact HM.out i (by omega))
              clear HA
              have t0 : decide ((nm.size : Int) < (nm.size : Int)) = false := decide_eq_false (by omega)
              go_wp2_with fail
              go_round
              case rel => exact ⟨m + 1, by omega, by go_num, HS2⟩
              case measure => simp [intOf]; omega
        · obtain rfl : m = fs.length := by omega
          have t1 : decide ((fs.length : Int) < (fs.length : Int)) = false := decide_eq_false (by omega)
          go_wp2_with fail
          go_ret
          exact someB_yes (by rw [← HP.out]; exact ⟨HS.out, HM.out⟩)
theorem min_any (a b : Int) (w : World) : Calls Tryf.prog 40 #[.int .i64 a, .int .i64 b] w fun e w' => e = .returned (.int .i64 (if a < b then a else b)) ∧ w = w' := by
  by_cases h : a < b
  · rw [if_pos h]
    have t : decide (a < b) = true := decide_eq_true h
    go_enter Tryf.func40, Tryf.ntmps40
    go_wp2_with fail
    go_ret
    exact ⟨rfl, rfl⟩
  · rw [if_neg h]
    have t : decide (a < b) = false := decide_eq_false h
    go_enter Tryf.func40, Tryf.ntmps40
    go_wp2_with fail
    go_ret
    exact ⟨rfl, rfl⟩
theorem max_any (a b : Int) (w : World) : Calls Tryf.prog 39 #[.int .i64 a, .int .i64 b] w fun e w' => e = .returned (.int .i64 (if b < a then a else b)) ∧ w = w' := by
  by_cases h : b < a
  · rw [if_pos h]
    have t : decide (b < a) = true := decide_eq_true h
    go_enter Tryf.func39, Tryf.ntmps39
    go_wp2_with fail
    go_ret
    exact ⟨rfl, rfl⟩
  · rw [if_neg h]
    have t : decide (b < a) = false := decide_eq_false h
    go_enter Tryf.func39, Tryf.ntmps39
    go_wp2_with fail
    go_ret
    exact ⟨rfl, rfl⟩
end Go.Proofs.YtjbehcabekkjdaaFmt
