/-
  The contract of n005_60's zzClass at a class that sets may open: where the class ends, if it is accepted. Its condition: the place lies inside the pattern; the pattern has at most 2^22 bytes.
-/
import Derived.Test.YtejankffdmahnaaFmtZSet
namespace Go.Proofs.YtejankffdmahnaaFmt
open Go.RowKit
set_option linter.unusedVariables false
set_option linter.unusedSimpArgs false

theorem zresC {tmps : Array Value} {w : World} {g : Nat} {cs : Array Value} {j : Int} {ok : Bool} (hp : tmps.getD 6 undef = .pointer (some ⟨g, 0, none⟩)) (h5 : tmps.getD 7 undef = .int .i64 j) (h6 : tmps.getD 8 undef = .bool ok)
    (hg : w.heap[g]? = some (.cells cs 23 (0, 0))) (h256 : cs.size = 256) : (results Tryf.f17 tmps).run Tryf.prog w = .ok (.tuple #[.agg cs, .int .i64 j, .bool ok]) w := by
  have hp' : tmps[6]?.getD undef = .pointer (some ⟨g, 0, none⟩) := by simpa using hp
  have h5' : tmps[7]?.getD undef = .int .i64 j := by simpa using h5
  have h6' : tmps[8]?.getD undef = .bool ok := by simpa using h6
  have hl := run_loadVar_row (P := Tryf.prog) w g 23 23 cs (0, 0) _ hg Tryf.underlying23 rfl (by rw [h256]; kernel_rfl)
  simp [results, Tryf.results17, hp', h5', h6', asAddr, hl]
theorem accSet_le {zs : List Int} {c : Nat} {ne : Bool} {j : Nat} (h : accSet zs c ne = some j) : c < j ∧ j ≤ zs.length := by
  fun_induction accSet zs c ne with
  | case1 => cases h
  | case2 c ne h1 h2 => injection h with h; omega
  | case3 c ne h1 h2 h3 ih => have := ih h; omega
  | case4 c ne h1 h2 h3 ih => have := ih h; split at this <;> omega
/-- Where the class at a place ends. -/
def clsEnd (s : ByteArray) (i : Nat) : Option Nat :=
  if chr (bz s) i = 37 then some (min (i + 2) s.size) else if chr (bz s) i = 91 then accSet (bz s) (stS s (i + 1)) false else some (i + 1)
def clsI : Option Nat → Int
  | some c => c
  | none => 0
def CPost (w : World) (r : Option Nat) (e : Ending) (w' : World) : Prop :=
  ∃ cs : Array Value, cs.size = 256 ∧ (∀ v ∈ cs, ∃ x : Bool, v = .bool x) ∧ Below w.heap.size w w' ∧ e = .returned (.tuple #[.agg cs, .int .i64 (clsI r), .bool r.isSome])
theorem T256.store {cs : Array Value} (h : ∀ v ∈ cs, ∃ x : Bool, v = .bool x) (w : World) (b : Nat) (ht : T256 w b) : ∃ cs', cs'.size = 256 ∧ (w.setCells b 0 cs.toList).heap[b]? = some (.cells cs' 23 (0, 0)) ∧ ∀ v ∈ cs', ∃ x : Bool, v = .bool x :=
  T256.sets cs.toList 0 _ ht (fun v hv => h v (by simpa using hv))
theorem T256.setsFar {b g : Nat} (hne : b ≠ g) : ∀ (vs : List Value) (o : Nat) {w : World}, T256 w b → T256 (w.setCells g o vs) b
  | [], o, w, h => h
  | v :: vs, o, w, h => T256.setsFar hne vs (o + 1) (h.setFar hne v)
theorem T256.far {w : World} {b g : Nat} (h : T256 w b) (hne : b ≠ g) (vs : List Value) (o : Nat) : T256 (w.setCells g o vs) b := T256.setsFar hne vs o h
set_option maxHeartbeats 4000000 in
set_option maxRecDepth 100000 in
theorem zcls_any (s : ByteArray) (i : Nat) (w : World) (hs : s.size ≤ 4194304) (hi : i < s.size) : Calls Tryf.prog 17 #[.string s, .int .i64 i, .bool true] w (CPost w (clsEnd s i)) := by
  have hz := bz_chr s i hi
  obtain ⟨r, hr⟩ : ∃ r, clsEnd s i = r := ⟨_, rfl⟩
  rw [hr]
  unfold clsEnd at hr
  rw [hz] at hr
  have HR := Lib.hid hr
  have hb255 : s[i].toNat < 256 := UInt8.toNat_lt _
  have HT0 := Lib.hid ((T256.new w).alloc (.cells zT 23))
  have HT1 := Lib.hid (T256.new (w.alloc (.cells zT 23)))
  have HW := Lib.hid (((Below.refl w.heap.size w).alloc (Nat.le_refl _) (.cells zT 23)).alloc (by simp) (.cells zT 23))
  have hsz : ((w.alloc (.cells zT 23)).alloc (.cells zT 23)).heap.size = w.heap.size + 1 + 1 := by simp
  have hs1 : (w.alloc (.cells zT 23)).heap.size = w.heap.size + 1 := by simp
  have HSZ := Lib.hid hsz
  rw [hs1] at HT1
  have hi2 : (i : Int) < (s.size : Int) := by omega
  have HZ := Lib.hid hz
  clear hz hr hsz hs1
  go_enter Tryf.func17, Tryf.ntmps17
  go_upto_region 2 with (fail)
  generalize (w.alloc (.cells zT 23)).alloc (.cells zT 23) = W at *
  obtain ⟨z, hzz⟩ : ∃ z, s[i].toNat = z := ⟨_, rfl⟩
  rw [hzz] at hb255 HR HZ
  by_cases h37 : z = 37
  · subst h37
    by_cases hi3 : i + 1 < s.size
    · have HR1 : Hid (some (i + 2) = r) := Lib.hid (by have := HR.out; rw [if_pos (by rfl), Nat.min_eq_left (by omega)] at this; exact this)
      have t1 : decide ((i : Int) + 1 < (s.size : Int)) = true := decide_eq_true (by omega)
      go_wp2_with fail
      go_loopg [13] 256 (fun k v wr => ∃ ch : Nat, k = 256 - ch ∧ v = .int .i64 ch ∧ ch ≤ 256 ∧ Hid (T256 wr (w.heap.size + 1)) ∧ Hid (T256 wr w.heap.size) ∧ Hid (Below w.heap.size w wr))
      case atStart => exact ⟨0, rfl, rfl, by omega, HT1, HT0, HW⟩
      case round =>
        obtain ⟨ch, rfl, rfl, hch, H1, H0, HB⟩ := hrel
        clear HT1 HT0 HW
        by_cases hc : ch < 256
        · have tch : decide ((ch : Int) < 256) = true := decide_eq_true (by omega)
          obtain ⟨xb, hxb⟩ := H1.out.cell hc
          have hfr := H1.out.free ch
          go_wp2_with fail
          refine (esc_any _ _ _).mono ?_
          rintro e w' ⟨v, rfl, rfl⟩
          go_wp2_with fail
          go_roundg (256 - (ch + 1))
          case measure => omega
          case rel => exact ⟨ch + 1, rfl, rfl, by omega, Lib.hid (H1.out.set _ _), Lib.hid (H0.out.setFar (by simp) _), Lib.hid (HB.out.setCell (by simp) _)⟩
        · obtain rfl : ch = 256 := by omega
          obtain ⟨cs, h256, hblk, hbool⟩ := H1.out
          have HK := Lib.hid hblk
          have H2 := Lib.hid h256
          have HBO := Lib.hid hbool
          clear hblk h256 hbool
          go_wp2_with (first | (refine wpList_load_row rfl 23 (.tmp 9) rfl (w.heap.size + 1) rfl 23 cs (0, 0) _ HK.out Tryf.underlying23 rfl (by rw [H2.out]; kernel_rfl) ?_) | (refine wpList_store_mid rfl 23 (.tmp 6) (.tmp 44) rfl w.heap.size 0 cs rfl rfl (by rw [H2.out]; exact H0.out.there) (by rw [H2.out]; kernel_rfl) (Bools.one HBO) ?_))
          obtain ⟨cs', h1, h2, h3⟩ := T256.store HBO.out _ _ H0.out
          refine bodyPost_ret (zresC rfl rfl rfl h2 h1) rfl ⟨cs', h1, h3, below_sets (Nat.le_refl _) _ _ _ _ HB.out, ?_⟩
          rw [← HR1.out]; simp [clsI]
    · have HR1 : Hid (some s.size = r) := Lib.hid (by have := HR.out; rw [if_pos (by rfl), Nat.min_eq_right (by omega)] at this; exact this)
      have t1 : decide ((i : Int) + 1 < (s.size : Int)) = false := decide_eq_false (by omega)
      obtain ⟨cs, h256, hblk, hbool⟩ := HT1.out
      have HK := Lib.hid hblk
      have H2 := Lib.hid h256
      have HBO := Lib.hid hbool
      clear hblk h256 hbool
      go_wp2_with (first | (refine wpList_load_row rfl 23 (.tmp 9) rfl (w.heap.size + 1) rfl 23 cs (0, 0) _ HK.out Tryf.underlying23 rfl (by rw [H2.out]; kernel_rfl) ?_) | (refine wpList_store_mid rfl 23 (.tmp 6) (.tmp 47) rfl w.heap.size 0 cs rfl rfl (by rw [H2.out]; exact HT0.out.there) (by rw [H2.out]; kernel_rfl) (Bools.one HBO) ?_))
      obtain ⟨cs', h1, h2, h3⟩ := T256.store HBO.out _ _ HT0.out
      refine bodyPost_ret (zresC rfl rfl rfl h2 h1) rfl ⟨cs', h1, h3, below_sets (Nat.le_refl _) _ _ _ _ HW.out, ?_⟩
      rw [← HR1.out]; simp [clsI]
  · by_cases h46 : z = 46
    · subst h46
      have HR1 : Hid (some (i + 1) = r) := Lib.hid (by have := HR.out; rw [if_neg (by decide), if_neg (by decide)] at this; exact this)
      go_wp2_with fail
      go_loopg [14] 256 (fun k v wr => ∃ ch : Nat, k = 256 - ch ∧ v = .int .i64 ch ∧ ch ≤ 256 ∧ Hid (T256 wr (w.heap.size + 1)) ∧ Hid (T256 wr w.heap.size) ∧ Hid (Below w.heap.size w wr))
      case atStart => exact ⟨0, rfl, rfl, by omega, HT1, HT0, HW⟩
      case round =>
        obtain ⟨ch, rfl, rfl, hch, H1, H0, HB⟩ := hrel
        clear HT1 HT0 HW
        by_cases hc : ch < 256
        · have tch : decide ((ch : Int) < 256) = true := decide_eq_true (by omega)
          obtain ⟨xb, hxb⟩ := H1.out.cell hc
          have hfr := H1.out.free ch
          go_wp2_with fail
          go_roundg (256 - (ch + 1))
          case measure => omega
          case rel => exact ⟨ch + 1, rfl, rfl, by omega, Lib.hid (H1.out.set _ _), Lib.hid (H0.out.setFar (by simp) _), Lib.hid (HB.out.setCell (by simp) _)⟩
        · obtain rfl : ch = 256 := by omega
          obtain ⟨cs, h256, hblk, hbool⟩ := H1.out
          have HK := Lib.hid hblk
          have H2 := Lib.hid h256
          have HBO := Lib.hid hbool
          clear hblk h256 hbool
          go_wp2_with (first | (refine wpList_load_row rfl 23 (.tmp 9) rfl (w.heap.size + 1) rfl 23 cs (0, 0) _ HK.out Tryf.underlying23 rfl (by rw [H2.out]; kernel_rfl) ?_) | (refine wpList_store_mid rfl 23 (.tmp 6) (.tmp 60) rfl w.heap.size 0 cs rfl rfl (by rw [H2.out]; exact H0.out.there) (by rw [H2.out]; kernel_rfl) (Bools.one HBO) ?_))
          obtain ⟨cs', h1, h2, h3⟩ := T256.store HBO.out _ _ H0.out
          refine bodyPost_ret (zresC rfl rfl rfl h2 h1) rfl ⟨cs', h1, h3, below_sets (Nat.le_refl _) _ _ _ _ HB.out, ?_⟩
          rw [← HR1.out]; simp [clsI]
    · by_cases h91 : z = 91
      · subst h91
        have HR1 : Hid (accSet (bz s) (stS s (i + 1)) false = r) := Lib.hid (by have := HR.out; rw [if_neg (by decide), if_pos (by rfl)] at this; exact this)
        have hZS := zset_any s (i + 1) W hs (by omega)
        rw [HR1.out] at hZS
        have HZS := Lib.hid hZS
        clear hZS
        go_wp2_with fail
        refine HZS.out.mono ?_
        rintro e w2 ⟨cz, hz256, hzb, hb2, rfl⟩
        have HW2 := Lib.hid (HW.out.trans (hb2.mono HW.out.size))
        have HT02 := Lib.hid (HT0.out.below hb2 HT0.out.lt)
        have HT12 := Lib.hid (HT1.out.below hb2 HT1.out.lt)
        have hgt : w.heap.size + 1 < w2.heap.size := by have := HT12.out.lt; omega
        have HZ2 := Lib.hid hz256
        have HZB := Lib.hid hzb
        clear hb2 hz256 hzb HT0 HT1 HW HZS
        cases r with
        | none =>
          have e0 : zEnd none = 0 := rfl
          rw [e0]
          go_upto_region 21 with (refine wpList_store_mid rfl 23 (.tmp 15) (.tmp 73) rfl w2.heap.size 0 cz rfl rfl (by rw [HZ2.out]; exact (T256.new w2).there) (by rw [HZ2.out]; kernel_rfl) (Bools.one HZB) ?_)
          have H3 := Lib.hid (T256.sets cz.toList 0 _ (T256.new w2) (fun v hv => HZB.out v (by simpa using hv)))
          have H13 := Lib.hid ((HT12.out.alloc (.cells zT 23)).far (show w.heap.size + 1 ≠ w2.heap.size by omega) cz.toList 0)
          have H03 := Lib.hid ((HT02.out.alloc (.cells zT 23)).far (show w.heap.size ≠ w2.heap.size by omega) cz.toList 0)
          have HB3 := Lib.hid (below_sets (B := w.heap.size) (b := w2.heap.size) (by omega) cz.toList 0 _ _ (HW2.out.alloc HW2.out.size (.cells zT 23)))
          generalize (w2.alloc (.cells zT 23)).setCells w2.heap.size 0 cz.toList = w3 at *
          clear HT12 HT02 HW2
          obtain ⟨cs, h256, hblk, hbool⟩ := H13.out
          have HK := Lib.hid hblk
          have H2 := Lib.hid h256
          have HBO := Lib.hid hbool
          clear hblk h256 hbool
          go_wp2_with (first | (refine wpList_load_row rfl 23 (.tmp 9) rfl (w.heap.size + 1) rfl 23 cs (0, 0) _ HK.out Tryf.underlying23 rfl (by rw [H2.out]; kernel_rfl) ?_) | (refine wpList_store_mid rfl 23 (.tmp 6) (.tmp 78) rfl w.heap.size 0 cs rfl rfl (by rw [H2.out]; exact H03.out.there) (by rw [H2.out]; kernel_rfl) (Bools.one HBO) ?_))
          obtain ⟨cs', h1, h2, h3⟩ := T256.store HBO.out _ _ H03.out
          refine bodyPost_ret (zresC rfl rfl rfl h2 h1) rfl ⟨cs', h1, h3, below_sets (Nat.le_refl _) _ _ _ _ HB3.out, ?_⟩
          rfl
        | some j =>
          have e0 : zEnd (some j) = (j : Int) - 1 := rfl
          have hj1 := (accSet_le HR1.out).1
          have hj2 := (accSet_le HR1.out).2
          rw [bz_length] at hj2
          rw [e0]
          go_upto_region 21 with (refine wpList_store_mid rfl 23 (.tmp 15) (.tmp 73) rfl w2.heap.size 0 cz rfl rfl (by rw [HZ2.out]; exact (T256.new w2).there) (by rw [HZ2.out]; kernel_rfl) (Bools.one HZB) ?_)
          have H3 := Lib.hid (T256.sets cz.toList 0 _ (T256.new w2) (fun v hv => HZB.out v (by simpa using hv)))
          have H13 := Lib.hid ((HT12.out.alloc (.cells zT 23)).far (show w.heap.size + 1 ≠ w2.heap.size by omega) cz.toList 0)
          have H03 := Lib.hid ((HT02.out.alloc (.cells zT 23)).far (show w.heap.size ≠ w2.heap.size by omega) cz.toList 0)
          have HB3 := Lib.hid (below_sets (B := w.heap.size) (b := w2.heap.size) (by omega) cz.toList 0 _ _ (HW2.out.alloc HW2.out.size (.cells zT 23)))
          generalize (w2.alloc (.cells zT 23)).setCells w2.heap.size 0 cz.toList = w3 at *
          clear HT12 HT02 HW2
          obtain ⟨cs, h256, hblk, hbool⟩ := H3.out
          have HK := Lib.hid hblk
          have H2 := Lib.hid h256
          have HBO := Lib.hid hbool
          clear hblk h256 hbool
          go_wp2_with (first | (refine wpList_load_row rfl 23 (.tmp 15) rfl w2.heap.size rfl 23 cs (0, 0) _ HK.out Tryf.underlying23 rfl (by rw [H2.out]; kernel_rfl) ?_) | (refine wpList_store_mid rfl 23 (.tmp 6) (.tmp 79) rfl w.heap.size 0 cs rfl rfl (by rw [H2.out]; exact H03.out.there) (by rw [H2.out]; kernel_rfl) (Bools.one HBO) ?_))
          obtain ⟨cs', h1, h2, h3⟩ := T256.store HBO.out _ _ H03.out
          refine bodyPost_ret (zresC rfl rfl rfl h2 h1) rfl ⟨cs', h1, h3, below_sets (Nat.le_refl _) _ _ _ _ HB3.out, ?_⟩
          simp [clsI]
      · have HR1 : Hid (some (i + 1) = r) := Lib.hid (by have := HR.out; rw [if_neg (by omega), if_neg (by omega)] at this; exact this)
        have t1 : ((z : Int) == 37) = false := by rw [beq_eq_false_iff_ne]; omega
        have t2 : ((z : Int) == 46) = false := by rw [beq_eq_false_iff_ne]; omega
        have t3 : ((z : Int) == 91) = false := by rw [beq_eq_false_iff_ne]; omega
        obtain ⟨xb, hxb⟩ := HT1.out.cell (i := z) hb255
        have hfr := HT1.out.free z
        have hz0 : (z : Int) < 256 := by omega
        clear h37 h46 h91
        go_upto_region 25 with (fail)
        have HS1 := Lib.hid (HT1.out.set z true)
        have HS0 := Lib.hid (HT0.out.setFar (p := ⟨w.heap.size + 1, z, none⟩) (by simp) (.bool true))
        have HSB := Lib.hid (HW.out.setCell (p := ⟨w.heap.size + 1, z, none⟩) (by simp) (.bool true))
        generalize W.setCell ⟨w.heap.size + 1, z, none⟩ (.bool true) = W2 at *
        obtain ⟨cs, h256, hblk, hbool⟩ := HS1.out
        have HK := Lib.hid hblk
        have H2 := Lib.hid h256
        have HBO := Lib.hid hbool
        clear hblk h256 hbool
        go_wp2_with (first | (refine wpList_load_row rfl 23 (.tmp 9) rfl (w.heap.size + 1) rfl 23 cs (0, 0) _ HK.out Tryf.underlying23 rfl (by rw [H2.out]; kernel_rfl) ?_) | (refine wpList_store_mid rfl 23 (.tmp 6) (.tmp 84) rfl w.heap.size 0 cs rfl rfl (by rw [H2.out]; exact HS0.out.there) (by rw [H2.out]; kernel_rfl) (Bools.one HBO) ?_))
        obtain ⟨cs', h1, h2, h3⟩ := T256.store HBO.out _ _ HS0.out
        refine bodyPost_ret (zresC rfl rfl rfl h2 h1) rfl ⟨cs', h1, h3, below_sets (Nat.le_refl _) _ _ _ _ HSB.out, ?_⟩
        rw [← HR1.out]; simp [clsI]
end Go.Proofs.YtejankffdmahnaaFmt
