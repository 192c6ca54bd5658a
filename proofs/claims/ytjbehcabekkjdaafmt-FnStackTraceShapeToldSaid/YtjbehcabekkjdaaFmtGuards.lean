/-
  The contracts of the laws' guards: a bool whose truth lays the bounds. Their condition: the frames lie in memory.
-/
import Derived.Test.YtjbehcabekkjdaaFmtFr
namespace Go.Proofs.YtjbehcabekkjdaaFmt
open Go.RowKit
set_option linter.unusedVariables false
set_option linter.unusedSimpArgs false

theorem names_step {fs : List Fr} {k : Nat} (h : ∀ i, i < k → fs[i]!.name.size ≤ 1048576) (hn : fs[k]!.name.size ≤ 1048576) : ∀ i, i < k + 1 → fs[i]!.name.size ≤ 1048576 := fun i hi => by
  rcases Nat.lt_or_ge i k with h1 | h1
  · exact h i h1
  · obtain rfl : i = k := by omega
    exact hn
set_option maxHeartbeats 1000000 in
theorem bytesFnRawFrameNameLocal_any (a : Option Addr) (cap : Nat) (fs : List Fr) (src : ByteArray) (x : Int) (b : Bool) (y : Int) (w : World) (hf : FrsAt w a fs) (hl : fs.length ≤ 9223372036854775807) (hs : src.size ≤ 9223372036854775807) (hn : ∀ i, i < fs.length → fs[i]!.name.size ≤ 9223372036854775807) :
    Calls Tryf.prog 7 #[.slice a fs.length cap, .string src, .int .i64 x, .bool b, .int .i64 y] w (SomeB (Names fs src) w) := by
  have HF := Lib.hid hf
  have HN := Lib.hid hn
  clear hf hn
  by_cases hl2 : fs.length ≤ 1048576
  · go_enter Tryf.func7, Tryf.ntmps7
    go_wp2_with fail
    go_loop [11, 12] (fun vz vi => ∃ (k : Nat) (z : Int), k ≤ fs.length ∧ vi = .int .i64 k ∧ vz = .int .i64 z ∧ 0 ≤ z ∧ z ≤ 1048576 ∧ Hid (∀ i, i < k → fs[i]!.name.size ≤ 1048576)) (fun _ vi => fs.length - (intOf vi).toNat)
    case atStart => exact ⟨0, (fs.length : Int), Nat.zero_le _, rfl, rfl, by omega, by omega, Lib.hid (fun i h => by omega)⟩
    case round =>
      obtain ⟨k, z, hk, rfl, rfl, hz0, hz1, HA⟩ := hrel
      by_cases hlt : k < fs.length
      · obtain ⟨b, off, rfl, hbl, hc⟩ := HF.out (by omega)
        obtain ⟨h0, h1, h2, h3, h4⟩ := hc k hlt
        have hnm := HN.out k hlt
        obtain ⟨nm, hnme⟩ : ∃ nm, fs[k]!.name = nm := ⟨_, rfl⟩
        rw [hnme] at h3 hnm
        have HNM := Lib.hid hnme
        have h5 : (k : Int) < (fs.length : Int) := by omega
        clear hnme h0 h1 h2 h4 hc
        by_cases hs1 : nm.size ≤ 1048576
        · have HA2 : Hid (∀ i, i < k + 1 → fs[i]!.name.size ≤ 1048576) := Lib.hid (names_step HA.out (by rw [HNM.out]; exact hs1))
          by_cases hs2 : z + nm.size ≤ 1048576
          · go_wp2_with fail
            go_round
            case rel => exact ⟨k + 1, z + nm.size, by omega, by go_num, rfl, by omega, by omega, HA2⟩
            case measure => simp [intOf]; omega
          · go_wp2_with fail
            go_ret
            exact someB_no
        · go_wp2_with fail
          go_ret
          exact someB_no
      · obtain rfl : k = fs.length := by omega
        by_cases hs1 : src.size ≤ 1048576
        · by_cases hs2 : z + src.size ≤ 1048576
          · go_wp2_with fail
            go_ret
            exact someB_yes ⟨hl2, hs1, HA.out⟩
          · go_wp2_with fail
            go_ret
            exact someB_no
        · go_wp2_with fail
          go_ret
          exact someB_no
  · go_enter Tryf.func7, Tryf.ntmps7
    go_wp2_with fail
    go_ret
    exact someB_no
set_option maxHeartbeats 1000000 in
theorem bytesFnWhereExact_any (a : Option Addr) (cap : Nat) (fs : List Fr) (src : ByteArray) (x : Int) (w : World) (hf : FrsAt w a fs) (hl : fs.length ≤ 9223372036854775807) (hs : src.size ≤ 9223372036854775807) (hn : ∀ i, i < fs.length → fs[i]!.name.size ≤ 9223372036854775807) :
    Calls Tryf.prog 13 #[.slice a fs.length cap, .string src, .int .i64 x] w (SomeB (Names fs src) w) := by
  have HF := Lib.hid hf
  have HN := Lib.hid hn
  clear hf hn
  by_cases hl2 : fs.length ≤ 1048576
  · go_enter Tryf.func13, Tryf.ntmps13
    go_wp2_with fail
    go_loop [7, 8] (fun vz vi => ∃ (k : Nat) (z : Int), k ≤ fs.length ∧ vi = .int .i64 k ∧ vz = .int .i64 z ∧ 0 ≤ z ∧ z ≤ 1048576 ∧ Hid (∀ i, i < k → fs[i]!.name.size ≤ 1048576)) (fun _ vi => fs.length - (intOf vi).toNat)
    case atStart => exact ⟨0, (fs.length : Int), Nat.zero_le _, rfl, rfl, by omega, by omega, Lib.hid (fun i h => by omega)⟩
    case round =>
      obtain ⟨k, z, hk, rfl, rfl, hz0, hz1, HA⟩ := hrel
      by_cases hlt : k < fs.length
      · obtain ⟨b, off, rfl, hbl, hc⟩ := HF.out (by omega)
        obtain ⟨h0, h1, h2, h3, h4⟩ := hc k hlt
        have hnm := HN.out k hlt
        obtain ⟨nm, hnme⟩ : ∃ nm, fs[k]!.name = nm := ⟨_, rfl⟩
        rw [hnme] at h3 hnm
        have HNM := Lib.hid hnme
        have h5 : (k : Int) < (fs.length : Int) := by omega
        clear hnme h0 h1 h2 h4 hc
        by_cases hs1 : nm.size ≤ 1048576
        · have HA2 : Hid (∀ i, i < k + 1 → fs[i]!.name.size ≤ 1048576) := Lib.hid (names_step HA.out (by rw [HNM.out]; exact hs1))
          by_cases hs2 : z + nm.size ≤ 1048576
          · go_wp2_with fail
            go_round
            case rel => exact ⟨k + 1, z + nm.size, by omega, by go_num, rfl, by omega, by omega, HA2⟩
            case measure => simp [intOf]; omega
          · go_wp2_with fail
            go_ret
            exact someB_no
        · go_wp2_with fail
          go_ret
          exact someB_no
      · obtain rfl : k = fs.length := by omega
        by_cases hs1 : src.size ≤ 1048576
        · by_cases hs2 : z + src.size ≤ 1048576
          · go_wp2_with fail
            go_ret
            exact someB_yes ⟨hl2, hs1, HA.out⟩
          · go_wp2_with fail
            go_ret
            exact someB_no
        · go_wp2_with fail
          go_ret
          exact someB_no
  · go_enter Tryf.func13, Tryf.ntmps13
    go_wp2_with fail
    go_ret
    exact someB_no
set_option maxHeartbeats 1000000 in
theorem bytesFnFormattedAgreesWithRaw_any (a : Option Addr) (cap : Nat) (fs : List Fr) (src : ByteArray) (x : Int) (b : Bool) (w : World) (hf : FrsAt w a fs) (hl : fs.length ≤ 9223372036854775807) (hs : src.size ≤ 9223372036854775807) (hn : ∀ i, i < fs.length → fs[i]!.name.size ≤ 9223372036854775807) :
    Calls Tryf.prog 17 #[.slice a fs.length cap, .string src, .int .i64 x, .bool b] w (SomeB (Names fs src) w) := by
  have HF := Lib.hid hf
  have HN := Lib.hid hn
  clear hf hn
  by_cases hl2 : fs.length ≤ 1048576
  · go_enter Tryf.func17, Tryf.ntmps17
    go_wp2_with fail
    go_loop [9, 10] (fun vz vi => ∃ (k : Nat) (z : Int), k ≤ fs.length ∧ vi = .int .i64 k ∧ vz = .int .i64 z ∧ 0 ≤ z ∧ z ≤ 1048576 ∧ Hid (∀ i, i < k → fs[i]!.name.size ≤ 1048576)) (fun _ vi => fs.length - (intOf vi).toNat)
    case atStart => exact ⟨0, (fs.length : Int), Nat.zero_le _, rfl, rfl, by omega, by omega, Lib.hid (fun i h => by omega)⟩
    case round =>
      obtain ⟨k, z, hk, rfl, rfl, hz0, hz1, HA⟩ := hrel
      by_cases hlt : k < fs.length
      · obtain ⟨b, off, rfl, hbl, hc⟩ := HF.out (by omega)
        obtain ⟨h0, h1, h2, h3, h4⟩ := hc k hlt
        have hnm := HN.out k hlt
        obtain ⟨nm, hnme⟩ : ∃ nm, fs[k]!.name = nm := ⟨_, rfl⟩
        rw [hnme] at h3 hnm
        have HNM := Lib.hid hnme
        have h5 : (k : Int) < (fs.length : Int) := by omega
        clear hnme h0 h1 h2 h4 hc
        by_cases hs1 : nm.size ≤ 1048576
        · have HA2 : Hid (∀ i, i < k + 1 → fs[i]!.name.size ≤ 1048576) := Lib.hid (names_step HA.out (by rw [HNM.out]; exact hs1))
          by_cases hs2 : z + nm.size ≤ 1048576
          · go_wp2_with fail
            go_round
            case rel => exact ⟨k + 1, z + nm.size, by omega, by go_num, rfl, by omega, by omega, HA2⟩
            case measure => simp [intOf]; omega
          · go_wp2_with fail
            go_ret
            exact someB_no
        · go_wp2_with fail
          go_ret
          exact someB_no
      · obtain rfl : k = fs.length := by omega
        by_cases hs1 : src.size ≤ 1048576
        · by_cases hs2 : z + src.size ≤ 1048576
          · go_wp2_with fail
            go_ret
            exact someB_yes ⟨hl2, hs1, HA.out⟩
          · go_wp2_with fail
            go_ret
            exact someB_no
        · go_wp2_with fail
          go_ret
          exact someB_no
  · go_enter Tryf.func17, Tryf.ntmps17
    go_wp2_with fail
    go_ret
    exact someB_no
set_option maxHeartbeats 1000000 in
theorem bytesFnStackTraceShape_any (a : Option Addr) (cap : Nat) (fs : List Fr) (src : ByteArray) (x : Int) (b : Bool) (y : Int) (w : World) (hf : FrsAt w a fs) (hl : fs.length ≤ 9223372036854775807) (hs : src.size ≤ 9223372036854775807) (hn : ∀ i, i < fs.length → fs[i]!.name.size ≤ 9223372036854775807) :
    Calls Tryf.prog 19 #[.slice a fs.length cap, .string src, .int .i64 x, .bool b, .int .i64 y] w (SomeB (Names fs src) w) := by
  have HF := Lib.hid hf
  have HN := Lib.hid hn
  clear hf hn
  by_cases hl2 : fs.length ≤ 1048576
  · go_enter Tryf.func19, Tryf.ntmps19
    go_wp2_with fail
    go_loop [11, 12] (fun vz vi => ∃ (k : Nat) (z : Int), k ≤ fs.length ∧ vi = .int .i64 k ∧ vz = .int .i64 z ∧ 0 ≤ z ∧ z ≤ 1048576 ∧ Hid (∀ i, i < k → fs[i]!.name.size ≤ 1048576)) (fun _ vi => fs.length - (intOf vi).toNat)
    case atStart => exact ⟨0, (fs.length : Int), Nat.zero_le _, rfl, rfl, by omega, by omega, Lib.hid (fun i h => by omega)⟩
    case round =>
      obtain ⟨k, z, hk, rfl, rfl, hz0, hz1, HA⟩ := hrel
      by_cases hlt : k < fs.length
      · obtain ⟨b, off, rfl, hbl, hc⟩ := HF.out (by omega)
        obtain ⟨h0, h1, h2, h3, h4⟩ := hc k hlt
        have hnm := HN.out k hlt
        obtain ⟨nm, hnme⟩ : ∃ nm, fs[k]!.name = nm := ⟨_, rfl⟩
        rw [hnme] at h3 hnm
        have HNM := Lib.hid hnme
        have h5 : (k : Int) < (fs.length : Int) := by omega
        clear hnme h0 h1 h2 h4 hc
        by_cases hs1 : nm.size ≤ 1048576
        · have HA2 : Hid (∀ i, i < k + 1 → fs[i]!.name.size ≤ 1048576) := Lib.hid (names_step HA.out (by rw [HNM.out]; exact hs1))
          by_cases hs2 : z + nm.size ≤ 1048576
          · go_wp2_with fail
            go_round
            case rel => exact ⟨k + 1, z + nm.size, by omega, by go_num, rfl, by omega, by omega, HA2⟩
            case measure => simp [intOf]; omega
          · go_wp2_with fail
            go_ret
            exact someB_no
        · go_wp2_with fail
          go_ret
          exact someB_no
      · obtain rfl : k = fs.length := by omega
        by_cases hs1 : src.size ≤ 1048576
        · by_cases hs2 : z + src.size ≤ 1048576
          · go_wp2_with fail
            go_ret
            exact someB_yes ⟨hl2, hs1, HA.out⟩
          · go_wp2_with fail
            go_ret
            exact someB_no
        · go_wp2_with fail
          go_ret
          exact someB_no
  · go_enter Tryf.func19, Tryf.ntmps19
    go_wp2_with fail
    go_ret
    exact someB_no

theorem framed_step {fs : List Fr} {k : Nat} (h : ∀ i, i < k → 0 ≤ tailF fs[i]! ∧ tailF fs[i]! ≤ 65536) (hn : 0 ≤ tailF fs[k]! ∧ tailF fs[k]! ≤ 65536) : ∀ i, i < k + 1 → 0 ≤ tailF fs[i]! ∧ tailF fs[i]! ≤ 65536 := fun i hi => by
  rcases Nat.lt_or_ge i k with h1 | h1
  · exact h i h1
  · obtain rfl : i = k := by omega
    exact hn
set_option maxHeartbeats 2000000 in
theorem framesOK_any (a : Option Addr) (cap : Nat) (fs : List Fr) (src : ByteArray) (w : World) (hf : FrsAt w a fs) (hn : Names fs src) :
    Calls Tryf.prog 8 #[.slice a fs.length cap, .string src] w (SomeB (Framed fs src) w) := by
  have HF := Lib.hid hf
  have hl := hn.1
  have hs := hn.2.1
  have HN := Lib.hid hn.2.2
  clear hf hn
  by_cases hl2 : fs.length ≤ 4096
  · have t1 : decide ((4096 : Int) < (fs.length : Int)) = false := decide_eq_false (by omega)
    by_cases hs2 : src.size ≤ 65536
    · have t2 : decide ((65536 : Int) < (src.size : Int)) = false := decide_eq_false (by omega)
      go_enter Tryf.func8, Tryf.ntmps8
      go_wp2_with fail
      go_loop [5, 6, 7] (fun vt vs vi => ∃ (k : Nat) (z t : Int), k ≤ fs.length ∧ vi = .int .i64 k ∧ vt = .int .i64 z ∧ vs = .int .i64 t ∧ 0 ≤ z ∧ z ≤ 1048576 ∧ 0 ≤ t ∧ t ≤ 65536 ∧ Hid (sumT (fs.take k) = t) ∧ Hid (∀ i, i < k → 0 ≤ tailF fs[i]! ∧ tailF fs[i]! ≤ 65536)) (fun _ _ vi => fs.length - (intOf vi).toNat)
      case atStart => exact ⟨0, _, 0, Nat.zero_le _, rfl, rfl, rfl, by omega, by omega, by omega, by omega, Lib.hid rfl, Lib.hid (fun i h => by omega)⟩
      case round =>
        obtain ⟨k, z, t, hk, rfl, rfl, rfl, hz0, hz1, ht0, ht1, HT, HA⟩ := hrel
        by_cases hlt : k < fs.length
        · obtain ⟨b, off, rfl, hbl, hc⟩ := HF.out (by omega)
          obtain ⟨h0, h1, h2, h3, h4⟩ := hc k hlt
          have hnm := HN.out k hlt
          have hsn : sumT (fs.take (k + 1)) = sumT (fs.take k) + tailF fs[k]! := by rw [take_snocF fs k hlt, sumT_snoc]
          obtain ⟨⟨fg, fl, ft, nm, fc⟩, hfe⟩ : ∃ f, fs[k]! = f := ⟨_, rfl⟩
          rw [hfe] at h0 h2 h3 hnm hsn
          simp only at h0 h2 h3 hnm
          have HFE := Lib.hid hfe
          have HSN := Lib.hid hsn
          have h5 : (k : Int) < (fs.length : Int) := by omega
          clear hfe h1 h4 hc hsn
          by_cases hs1 : z + nm.size ≤ 1048576
          · cases fg with
            | true =>
              have HT2 : Hid (sumT (fs.take (k + 1)) = t) := Lib.hid (by rw [HSN.out, HT.out]; simp [tailF])
              have HA2 := Lib.hid (framed_step HA.out (by rw [HFE.out]; simp [tailF]))
              go_wp2_with fail
              go_round
              case rel => exact ⟨k + 1, z + nm.size, t, by omega, by go_num, rfl, rfl, by omega, by omega, by omega, by omega, HT2, HA2⟩
              case measure => simp [intOf]; omega
            | false =>
              by_cases ha : ft < 0
              · go_wp2_with fail
                go_ret
                exact someB_no
              · by_cases hb : 65536 < ft
                · go_wp2_with fail
                  go_ret
                  exact someB_no
                · by_cases hc : 65536 < t + ft
                  · go_wp2_with fail
                    go_ret
                    exact someB_no
                  · have HT2 : Hid (sumT (fs.take (k + 1)) = t + ft) := Lib.hid (by rw [HSN.out, HT.out]; simp [tailF])
                    have HA2 := Lib.hid (framed_step HA.out (by rw [HFE.out]; simp [tailF]; omega))
                    go_wp2_with fail
                    go_round
                    case rel => exact ⟨k + 1, z + nm.size, t + ft, by omega, by go_num, rfl, rfl, by omega, by omega, by omega, by omega, HT2, HA2⟩
                    case measure => simp [intOf]; omega
          · go_wp2_with fail
            go_ret
            exact someB_no
        · obtain rfl : k = fs.length := by omega
          have HT2 : Hid (sumT fs ≤ 65536) := Lib.hid (by have := HT.out; rw [List.take_length] at this; omega)
          go_wp2_with fail
          go_ret
          exact someB_yes ⟨hl2, hs2, HA.out, HT2.out⟩
    · have t2 : decide ((65536 : Int) < (src.size : Int)) = true := decide_eq_true (by omega)
      go_enter Tryf.func8, Tryf.ntmps8
      go_wp2_with fail
      go_ret
      exact someB_no
  · have t1 : decide ((4096 : Int) < (fs.length : Int)) = true := decide_eq_true (by omega)
    go_enter Tryf.func8, Tryf.ntmps8
    go_wp2_with fail
    go_ret
    exact someB_no

end Go.Proofs.YtjbehcabekkjdaaFmt
