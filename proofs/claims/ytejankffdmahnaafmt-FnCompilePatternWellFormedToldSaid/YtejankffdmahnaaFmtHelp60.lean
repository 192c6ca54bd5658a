/-
  The contracts of n005_60's exported helpers over the parser of a set, and the plain laws that link zzSet's acceptance to it. Their condition: at most 2^22 bytes that make a set.
-/
import Derived.Test.YtejankffdmahnaaFmtParseSet
import Derived.Test.YtejankffdmahnaaFmtClsM
import Derived.Test.YtejankffdmahnaaFmtScan2
import Derived.Test.YtejankffdmahnaaFmtZSet
import Derived.Lib.ConvBytes
namespace Go.Proofs.YtejankffdmahnaaFmt
open Go.RowKit
set_option linter.unusedVariables false
set_option linter.unusedSimpArgs false

theorem bz_byte (s : ByteArray) : ∀ z, z ∈ bz s → 0 ≤ z ∧ z ≤ 255 := by
  intro z hz
  simp only [bz, List.mem_map] at hz
  obtain ⟨b, _, rfl⟩ := hz
  have := UInt8.toNat_lt b
  omega
theorem bz_append (a b : ByteArray) : bz (a ++ b) = bz a ++ bz b := by simp [bz]
theorem bytes_below (w : World) (e : TypeId) (s : ByteArray) : Below w.heap.size w (Lib.bytesWorld w e s) := by
  refine ⟨?_, ?_, ?_, by rw [Lib.bytesWorld_size]; omega, fun i hi => Lib.bytesWorld_at_old w e s i hi⟩
  all_goals
    simp only [Lib.bytesWorld, World.freeze]
    split <;> rfl
theorem bytes_cells (w : World) (e : TypeId) (s : ByteArray) (i : Nat) (hi : i < (bz s).length) : (Lib.bytesWorld w e s).cell? ⟨w.heap.size, 0 + i, none⟩ = some (.int .u8 ((bz s).getD i 0)) := by
  rw [bz_length] at hi
  rw [Nat.zero_add, Lib.bytesWorld_cell w e s i hi]
  have h1 : i < s.data.toList.length := by simpa using hi
  simp only [bz, List.getD_eq_getElem?_getD, List.getElem?_map, List.getElem?_eq_getElem h1, Option.map_some, Option.getD_some]

theorem chr_cons (z : Int) (zs : List Int) (c : Nat) : chr (z :: zs) (c + 1) = chr zs c := by
  unfold chr
  by_cases h : c < zs.length
  · rw [if_pos h, if_pos (by simp; exact h)]; rfl
  · rw [if_neg h, if_neg (by simp; omega)]
theorem elem_cons (z : Int) (zs : List Int) (c : Nat) : elem (z :: zs) (c + 1) = ((elem zs c).1, (elem zs c).2 + 1) := by
  unfold elem
  rw [show c + 1 + 1 = (c + 1) + 1 from rfl, chr_cons, chr_cons]
  split <;> rfl
theorem setLoop_cons (z : Int) (zs : List Int) (c : Nat) (acc : List El) (isr : Bool) : setLoop (z :: zs) (c + 1) acc isr = (setLoop zs c acc isr).map fun r => (r.1, r.2.1, r.2.2 + 1) := by
  fun_induction setLoop zs c acc isr with
  | case1 c acc isr h => rw [setLoop, if_pos (by simp; omega)]; rfl
  | case2 c acc isr h1 h2 => rw [setLoop, if_neg (by simp; omega), chr_cons, if_pos h2]; rfl
  | case3 c acc isr h1 h2 h3 ih => rw [setLoop, if_neg (by simp; omega), chr_cons, if_neg h2, if_pos h3]; exact ih
  | case4 c acc isr h1 h2 h3 ih => rw [setLoop, if_neg (by simp; omega), chr_cons, if_neg h2, if_neg h3, elem_cons]; exact ih
theorem setLoop_acc (zs : List Int) (c : Nat) (acc : List El) (isr : Bool) : (setLoop zs c acc isr).map (·.2.2) = accSet zs c (decide (acc ≠ [])) := by
  fun_induction setLoop zs c acc isr with
  | case1 c acc isr h => rw [accSet_end h]; rfl
  | case2 c acc isr h1 h2 => rw [decide_eq_true h2.2, accSet_close (by omega) h2.1]; rfl
  | case3 c acc isr h1 h2 h3 ih => rw [decide_eq_true h3.2] at ih ⊢; rw [accSet_dash (by omega) h3.1]; exact ih
  | case4 c acc isr h1 h2 h3 ih =>
    rw [accSet_el (by omega) (by rw [decide_eq_true_eq]; exact h2) (by rw [decide_eq_true_eq]; exact h3)]
    have e1 : (elem zs c).2 = if chr zs c = 37 then c + 2 else c + 1 := by unfold elem; split <;> rfl
    have e2 : (if isr then rangeUp acc (elem zs c).1 else acc ++ [(elem zs c).1]) ≠ [] := by
      split
      · simp [rangeUp]
      · simp
    simp only [dite_eq_ite] at ih
    rw [decide_eq_true e2] at ih
    rw [← e1]
    exact ih
/-- What zzSet's acceptance says of the two sets. -/
theorem set_two {zs : List Int} (h94 : chr zs 0 ≠ 94) {c : Nat} (h : accSet zs 0 false = some c) : ∃ l, parseSet zs 0 = some (.set false l, c) ∧ parseSet (94 :: zs) 0 = some (.set true l, c + 1) := by
  have hl := setLoop_acc zs 0 [] false
  rw [show (decide (([] : List El) ≠ [])) = false by simp, h] at hl
  obtain ⟨r, hr, hc⟩ := Option.map_eq_some_iff.1 hl
  refine ⟨setFin r.1 r.2.1, ?_, ?_⟩
  · unfold parseSet; rw [if_neg h94, hr, ← hc]; rfl
  · have e : chr (94 :: zs) 0 = 94 := by unfold chr; rw [if_pos (by simp)]; rfl
    unfold parseSet; rw [if_pos e, setLoop_cons, hr, ← hc]; rfl
theorem pos_two {zs : List Int} {c : Nat} (h : accSet zs 0 false = some c) : posOf (zs.length + 1) (c + 1) = posOf zs.length c + 1 ∧ 0 ≤ posOf zs.length c ∧ posOf zs.length c ≤ zs.length := by
  have hl := setLoop_acc zs 0 [] false
  rw [show (decide (([] : List El) ≠ [])) = false by simp, h] at hl
  obtain ⟨r, hr, rfl⟩ := Option.map_eq_some_iff.1 hl
  have h1 := setLoop_lt hr
  have h2 : r.2.2 ≤ zs.length := by
    clear hl h h1
    generalize ([] : List El) = acc at hr
    generalize false = isr at hr
    generalize 0 = c at hr
    fun_induction setLoop zs c acc isr with
    | case1 => simp at hr
    | case2 c acc isr h1 h2 => simp only [Option.some.injEq] at hr; subst hr; simp; omega
    | case3 c acc isr h1 h2 h3 ih => exact ih hr
    | case4 c acc isr h1 h2 h3 ih => exact ih hr
  unfold posOf
  rw [if_neg (by omega), if_pos (by omega), if_neg (by omega), if_pos (by omega)]
  omega

set_option maxHeartbeats 1000000 in
theorem mats_any (s : ByteArray) (ch : Int) (w : World) (hl : s.size ≤ 4194304) (h0 : 0 < s.size) {R : Cl × Nat} (hR : parseSet (bz s) 0 = some R) :
    Calls Tryf.prog 8 #[.string s, .int .i64 ch] w fun e w' => e = .returned (.bool (R.1.has ch)) ∧ Below w.heap.size w w' := by
  have hcv := Lib.run_convert_string_bytes (P := Tryf.prog) w 9 48 5 s Tryf.underlying9 Tryf.underlying48 Tryf.underlying5
  have HB1 := Lib.hid (bytes_below w 5 s)
  have HC1 := Lib.hid (bytes_cells w 5 s)
  have HR := Lib.hid hR
  have HL := Lib.hid (bz_length s)
  clear hR
  generalize hw1 : Lib.bytesWorld w 5 s = w1 at *
  generalize hg : grownCap w s.size 0 5 = gc at *
  clear hw1 hg
  go_enter Tryf.func8, Tryf.ntmps8
  go_wp2_with fail
  refine (newScan_any _ _ _ _).mono ?_
  rintro e w2 ⟨rfl, rfl⟩
  have hs2 : Scan (w1.alloc (.cells #[.slice (some ⟨w.heap.size, 0, none⟩) (bz s).length gc, .int .i64 0, .bool false, .int .i64 0, .bool false] 62)) w1.heap.size (some ⟨w.heap.size, 0, none⟩) gc (bz s) 0 0 :=
    Scan.new (fun _ => ⟨_, _, rfl, HC1.out⟩) (by rw [HL.out]; omega) (bz_byte s)
  rw [HL.out] at hs2
  have HS2 := Lib.hid hs2
  have HB2 := Lib.hid (HB1.out.alloc HB1.out.size (.cells #[.slice (some ⟨w.heap.size, 0, none⟩) s.size gc, .int .i64 0, .bool false, .int .i64 0, .bool false] 62))
  clear hs2 hcv
  have hgt : w.heap.size ≤ w1.heap.size := HB1.out.size
  generalize w1.alloc (.cells #[.slice (some ⟨w.heap.size, 0, none⟩) s.size gc, .int .i64 0, .bool false, .int .i64 0, .bool false] 62) = w2 at *
  generalize w1.heap.size = sb at *
  go_wp2_with fail
  refine (parseSet_any HS2.out (by rw [HL.out]; exact h0) (by rw [HL.out]; exact hl) HR.out).mono ?_
  rintro e w3 ⟨T, a, rfl, hcl, hs3, hg3⟩
  obtain ⟨T', a', f, hv, hm, hen, hc⟩ := hcl.meets.to
  have HC := Lib.hid (hc ch)
  have HB3 := Lib.hid (HB2.out.trans (one_below hg3 hgt HB2.out.size))
  injection hv with hv1 hv2
  subst hv1
  injection hv2 with hv3
  subst hv3
  clear hcl hs3 hg3 hc
  go_wp2_with fail
  refine HC.out.mono ?_
  rintro e w' ⟨rfl, rfl⟩
  go_wp2_with fail
  go_ret
  exact ⟨rfl, HB3.out⟩

set_option maxHeartbeats 1000000 in
theorem ends_any (s : ByteArray) (w : World) (hl : s.size ≤ 4194304) (h0 : 0 < s.size) {R : Cl × Nat} (hR : parseSet (bz s) 0 = some R) :
    Calls Tryf.prog 7 #[.string s] w fun e w' => e = .returned (.int .i64 (posOf s.size R.2)) ∧ Below w.heap.size w w' := by
  have hcv := Lib.run_convert_string_bytes (P := Tryf.prog) w 9 48 5 s Tryf.underlying9 Tryf.underlying48 Tryf.underlying5
  have HB1 := Lib.hid (bytes_below w 5 s)
  have HC1 := Lib.hid (bytes_cells w 5 s)
  have HR := Lib.hid hR
  have HL := Lib.hid (bz_length s)
  clear hR
  generalize hw1 : Lib.bytesWorld w 5 s = w1 at *
  generalize hg : grownCap w s.size 0 5 = gc at *
  clear hw1 hg
  go_enter Tryf.func7, Tryf.ntmps7
  go_wp2_with fail
  refine (newScan_any _ _ _ _).mono ?_
  rintro e w2 ⟨rfl, rfl⟩
  have hs2 : Scan (w1.alloc (.cells #[.slice (some ⟨w.heap.size, 0, none⟩) (bz s).length gc, .int .i64 0, .bool false, .int .i64 0, .bool false] 62)) w1.heap.size (some ⟨w.heap.size, 0, none⟩) gc (bz s) 0 0 :=
    Scan.new (fun _ => ⟨_, _, rfl, HC1.out⟩) (by rw [HL.out]; omega) (bz_byte s)
  rw [HL.out] at hs2
  have HS2 := Lib.hid hs2
  have HB2 := Lib.hid (HB1.out.alloc HB1.out.size (.cells #[.slice (some ⟨w.heap.size, 0, none⟩) s.size gc, .int .i64 0, .bool false, .int .i64 0, .bool false] 62))
  clear hs2 hcv
  have hgt : w.heap.size ≤ w1.heap.size := HB1.out.size
  generalize w1.alloc (.cells #[.slice (some ⟨w.heap.size, 0, none⟩) s.size gc, .int .i64 0, .bool false, .int .i64 0, .bool false] 62) = w2 at *
  generalize w1.heap.size = sb at *
  go_wp2_with fail
  refine (parseSet_any HS2.out (by rw [HL.out]; exact h0) (by rw [HL.out]; exact hl) HR.out).mono ?_
  rintro e w3 ⟨T, a, rfl, hcl, hs3, hg3⟩
  have HB3 := Lib.hid (HB2.out.trans (one_below hg3 hgt HB2.out.size))
  have HS3 := Lib.hid hs3
  clear hcl hs3 hg3
  go_wp2_with fail
  refine (cur_any HS3.out).mono ?_
  rintro e w' ⟨rfl, rfl⟩
  go_wp2_with fail
  go_ret
  exact ⟨ret_int (by rw [HL.out]), HB3.out⟩

end Go.Proofs.YtejankffdmahnaaFmt
