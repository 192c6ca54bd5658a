/-
  The contract of parsePattern over an empty source, and the program of a literal, the empty one too. Its condition: the scanner lies in a block of its own.
-/
import Derived.Test.YtankjgbcpdodgaaFmtHelp108
namespace Go.Proofs.YtankjgbcpdodgaaFmt
open Go.RowKit
set_option linter.unusedVariables false
set_option linter.unusedSimpArgs false

section
variable {w : World} {b : Nat} {sao : Option Addr} {scap : Nat} {s : Nat}
theorem peek_nil {c : Nat} (h : Scan w b sao scap [] c s) :
    Calls Tryf.prog 29 #[.pointer (some ⟨b, 0, none⟩)] w fun e w' => e = .returned (.int .i64 (-1)) ∧ Scan w' b sao scap [] 1 s ∧ w.grownBy w' (some b) := by
  have hc : c ≤ 1 := h.cb
  refine (peek_any h).mono fun e w' ⟨h1, h2, h3⟩ => ⟨h1, ?_, h3⟩
  have e1 : peekC ([] : List Int).length c = 1 := by
    have hc2 : c = 0 ∨ c = 1 := by clear h1 h2 h3; omega
    rcases hc2 with rfl | rfl <;> rfl
  rw [e1] at h2
  exact h2
set_option maxRecDepth 1000000 in
set_option maxHeartbeats 1000000 in
theorem parsePat_nil (h : Scan w b sao scap [] 0 s) : Calls Tryf.prog 25 #[.pointer (some ⟨b, 0, none⟩), .bool true] w (PatPost w b sao scap [] false false [] 1) := by
  have hbw := Lib.hid (blk_lt h.blk)
  have HO := Lib.hid (patO_start w)
  have HS := Lib.hid (h.grownAlloc (.cells #[.bool false, .bool false, .slice none 0 0] 61))
  have HG := Lib.hid (one_alloc (one_refl w (some b)) (.cells #[.bool false, .bool false, .slice none 0 0] 61))
  clear h
  go_enter Tryf.func25, Tryf.ntmps25
  go_wp2_with fail
  refine wp_scope_exit 0 rfl (fun _ _ _ h => h) ?_
  go_wp2_with fail
  generalize w.alloc (.cells #[.bool false, .bool false, .slice none 0 0] 61) = w0 at *
  refine (peek_nil HS.out).mono ?_
  rintro e w1 ⟨rfl, hs1, hg1⟩
  have HO1 := Lib.hid (HO.out.call hg1 hbw.out)
  have HS1 := Lib.hid hs1
  have HG1 := Lib.hid (one_trans HG.out hg1)
  clear hs1 hg1
  go_wp2_with fail
  refine wp_loop_ghost (fun n a' w' => a' = _ ∧ w' = w1) 0 ⟨rfl, rfl⟩ ?_
  rintro n a' w' ⟨rfl, rfl⟩
  go_wp2_with fail
  refine (peek_nil HS1.out).mono ?_
  rintro e w2 ⟨rfl, hs2, hg2⟩
  have HO2 := Lib.hid (HO1.out.call hg2 hbw.out)
  have HS2 := Lib.hid hs2
  have HG2 := Lib.hid (one_trans HG1.out hg2)
  clear hs2 hg2
  go_wp2_with fail
  refine (next_top HS2.out (Nat.zero_le _)).mono ?_
  rintro e w3 ⟨rfl, hs3, hg3⟩
  have HO3 := Lib.hid (HO2.out.call hg3 hbw.out)
  have HS3 := Lib.hid hs3
  have HG3 := Lib.hid (one_trans HG2.out hg3)
  clear hs3 hg3
  go_wp2_with fail
  go_step3
  refine ⟨rfl, ?_⟩
  go_wp2_with fail
  go_ret
  exact patPost_mk rfl HO3.out HS3.out HG3.out
/-- The parser over a literal, the empty one too. -/
theorem parsePat_lit {zs : List Int} (h : Scan w b sao scap zs 0 s) (hl : zs.length ≤ 4194304) (hp : ∀ z, z ∈ zs → plainZ z = true) :
    Calls Tryf.prog 25 #[.pointer (some ⟨b, 0, none⟩), .bool true] w (PatPost w b sao scap zs false false (lits zs) (zs.length + 1)) := by
  rcases Nat.eq_zero_or_pos zs.length with h0 | h0
  · have : zs = [] := List.length_eq_zero_iff.1 h0
    subst this
    exact parsePat_nil h
  · exact parsePat_any h h0 hl (lit_ptop zs hp)
end

set_option maxHeartbeats 1000000 in
/-- The program of a literal. -/
theorem comp_lit (s : ByteArray) (w : World) (hs : s.size ≤ 4096) (hp : Hid ((bz s).all plainZ = true)) :
    Calls Tryf.prog 10 #[.string s] w (ProgPost w (litProg false (bz s))) := by
  have hcv := Lib.run_convert_string_bytes (P := Tryf.prog) w 9 22 5 s Tryf.underlying9 Tryf.underlying22 Tryf.underlying5
  have HB1 := Lib.hid (bytes_below w 5 s)
  have HC1 := Lib.hid (bytes_cells w 5 s)
  have HR := Lib.hid (lit_crun (bz s) [.save 0] 2)
  have HLI : Hid (([Ins.save 0] ++ chrs (bz s)).length ≤ 8388608) := Lib.hid (by rw [List.length_append]; simp only [chrs, List.length_map, bz_length, List.length_singleton]; omega)
  have HL := Lib.hid (bz_length s)
  have HP := Lib.hid (fun z hz => List.all_eq_true.1 hp.out z hz)
  clear hp
  unfold litProg
  generalize [Ins.save 0] ++ chrs (bz s) = I' at *
  generalize hw1 : Lib.bytesWorld w 5 s = w1 at *
  generalize hg : grownCap w s.size 0 5 = gc at *
  clear hw1 hg
  go_enter Tryf.func10, Tryf.ntmps10
  go_wp2_with fail
  refine (newScan_any _ _ _ _).mono ?_
  rintro e w2 ⟨rfl, rfl⟩
  have hs2 : Scan (w1.alloc (.cells #[.slice (some ⟨w.heap.size, 0, none⟩) (bz s).length gc, .int .i64 0, .bool false, .int .i64 0, .bool false] 99)) w1.heap.size (some ⟨w.heap.size, 0, none⟩) gc (bz s) 0 0 :=
    Scan.new (fun _ => ⟨_, _, rfl, HC1.out⟩) (by rw [HL.out]; omega) (bz_byte s)
  rw [HL.out] at hs2
  have HS2 := Lib.hid hs2
  have HB2 := Lib.hid (HB1.out.alloc HB1.out.size (.cells #[.slice (some ⟨w.heap.size, 0, none⟩) s.size gc, .int .i64 0, .bool false, .int .i64 0, .bool false] 99))
  clear hs2 hcv
  have hgt : w.heap.size ≤ w1.heap.size := HB1.out.size
  generalize w1.alloc (.cells #[.slice (some ⟨w.heap.size, 0, none⟩) s.size gc, .int .i64 0, .bool false, .int .i64 0, .bool false] 99) = w2 at *
  generalize w1.heap.size = sb at *
  go_wp2_with fail
  refine (parsePat_lit HS2.out (by rw [HL.out]; omega) HP.out).mono ?_
  rintro e w3 ⟨q, aq, cap, vs, s', rfl, hq, hpo, hs3, hg3⟩
  have HB3 := Lib.hid (HB2.out.trans (one_below hg3 hgt HB2.out.size))
  have HPO := Lib.hid hpo
  clear hpo hs3 hg3
  go_wp2_with fail
  refine (compTop_any HPO.out.blk (owns_base HPO.out.own (Nat.zero_le _)) (HPO.out.els.kept (fun _ _ _ h => h) (fun _ _ h => h.elim)) HR.out HLI.out (by decide)).mono ?_
  rintro e w4 h4
  have HP4 := Lib.hid (progPost_from HB3.out h4)
  obtain ⟨m, ao, cap4, ys, rfl, h⟩ := h4
  clear h
  go_wp2_with fail
  go_ret
  exact HP4.out

end Go.Proofs.YtankjgbcpdodgaaFmt
