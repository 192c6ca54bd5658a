/-
  The contracts of n005_33's exported helpers: the dot's Matches, Matches of the class that a pattern's bytes make. Their condition: at most 2^22 bytes that make a class.
-/
import Derived.Test.YtkpnjhnopgbhlaaFmtParseCls
import Derived.Test.YtkpnjhnopgbhlaaFmtClsM
import Derived.Lib.ConvBytes
namespace Go.Proofs.YtkpnjhnopgbhlaaFmt
open Go.RowKit
set_option linter.unusedVariables false
set_option linter.unusedSimpArgs false

/-- The bytes of a string as numbers. -/
def bz (s : ByteArray) : List Int := s.data.toList.map fun b => (b.toNat : Int)
theorem bz_length (s : ByteArray) : (bz s).length = s.size := by simp [bz]
theorem bz_byte (s : ByteArray) : ∀ z, z ∈ bz s → 0 ≤ z ∧ z ≤ 255 := by
  intro z hz
  simp only [bz, List.mem_map] at hz
  obtain ⟨b, _, rfl⟩ := hz
  have := UInt8.toNat_lt b
  omega
theorem bytes_below (w : World) (e : TypeId) (s : ByteArray) : Below w.heap.size w (Lib.bytesWorld w e s) := by
  refine ⟨?_, ?_, ?_, by rw [Lib.bytesWorld_size]; omega, fun i hi => Lib.bytesWorld_at_old w e s i hi⟩
  all_goals
    simp only [Lib.bytesWorld, World.freeze]
    split <;> rfl
theorem bytes_cells (w : World) (e : TypeId) (s : ByteArray) (i : Nat) (hi : i < (bz s).length) : (Lib.bytesWorld w e s).cell? ⟨w.heap.size, 0 + i, none⟩ = some (.int .u8 ((bz s).getD i 0)) := by
  rw [bz_length] at hi
  rw [Nat.zero_add, Lib.bytesWorld_cell w e s i hi]
  have h1 : i < s.data.toList.length := by simpa using hi
  simp only [bz, List.getD_eq_getElem?_getD, List.getElem?_map, List.getElem?_eq_getElem h1, Option.map_some, Option.getD_some]

theorem zzDot_any (ch : Int) (w : World) : Calls Tryf.prog 8 #[.int .i64 ch] w fun e w' => e = .returned (.bool true) ∧ Below w.heap.size w w' := by
  go_enter Tryf.func8, Tryf.ntmps8
  go_wp2_with (go_at_call 12; refine (dotM_any _ ch _).mono ?_; rintro e w' ⟨rfl, rfl⟩)
  go_ret
  exact ⟨rfl, by first | exact (Below.refl _ _).alloc (Nat.le_refl _) _ | exact Below.refl _ _⟩

set_option maxHeartbeats 1000000 in
theorem zzParsed_any (s : ByteArray) (ch : Int) (w : World) (hl : s.size ≤ 4194304) {R : Cl × Nat} (hR : parseCls (bz s) 0 = some R) :
    Calls Tryf.prog 9 #[.string s, .int .i64 ch] w fun e w' => e = .returned (.bool (R.1.has ch)) ∧ Below w.heap.size w w' := by
  have hcv := Lib.run_convert_string_bytes (P := Tryf.prog) w 9 24 5 s Tryf.underlying9 Tryf.underlying24 Tryf.underlying5
  have HB1 := Lib.hid (bytes_below w 5 s)
  have HC1 := Lib.hid (bytes_cells w 5 s)
  have HZ := Lib.hid (Lib.bytesWorld_size w 5 s)
  have HR := Lib.hid hR
  have HL := Lib.hid (bz_length s)
  clear hR
  generalize hw1 : Lib.bytesWorld w 5 s = w1 at *
  generalize hg : grownCap w s.size 0 5 = gc at *
  clear hw1 hg
  go_enter Tryf.func9, Tryf.ntmps9
  go_wp2_with fail
  refine (newScan_any _ _ _ _).mono ?_
  rintro e w2 ⟨rfl, rfl⟩
  have hs2 : Scan (w1.alloc (.cells #[.slice (some ⟨w.heap.size, 0, none⟩) (bz s).length gc, .int .i64 0, .bool false, .int .i64 0, .bool false] 50)) w1.heap.size (some ⟨w.heap.size, 0, none⟩) gc (bz s) 0 0 :=
    Scan.new (fun _ => ⟨_, _, rfl, HC1.out⟩) (by rw [HL.out]; omega) (bz_byte s)
  rw [HL.out] at hs2
  have HS2 := Lib.hid hs2
  have HB2 := Lib.hid (HB1.out.alloc HB1.out.size (.cells #[.slice (some ⟨w.heap.size, 0, none⟩) s.size gc, .int .i64 0, .bool false, .int .i64 0, .bool false] 50))
  clear hs2 hcv
  have hgt : w.heap.size ≤ w1.heap.size := HB1.out.size
  generalize w1.alloc (.cells #[.slice (some ⟨w.heap.size, 0, none⟩) s.size gc, .int .i64 0, .bool false, .int .i64 0, .bool false] 50) = w2 at *
  generalize w1.heap.size = sb at *
  go_wp2_with fail
  refine (parseCls_any HS2.out (by rw [HL.out]; exact hl) HR.out).mono ?_
  rintro e w3 ⟨T, a, rfl, hcl, hs3, hg3⟩
  obtain ⟨T', a', f, hv, hm, hen, hc⟩ := hcl.meets.to
  have HC := Lib.hid (hc ch)
  have HB3 := Lib.hid (HB2.out.trans (one_below hg3 hgt HB2.out.size))
  injection hv with hv1 hv2
  subst hv1
  injection hv2 with hv3
  subst hv3
  clear hcl hs3 hg3 hc
  go_wp2_with fail
  refine HC.out.mono ?_
  rintro e w' ⟨rfl, rfl⟩
  go_wp2_with fail
  go_ret
  exact ⟨rfl, HB3.out⟩

end Go.Proofs.YtkpnjhnopgbhlaaFmt
