/-
  The contracts of n005_3's exported scanner helpers and of its byte guard. Their condition: the scanner lies in a block of its own.
-/
import Derived.Test.YtlokpjjjpgjbcaaScan
namespace Go.Proofs.Ytlokpjjjpgjbcaa
open Go.RowKit
set_option linter.unusedVariables false
set_option linter.unusedSimpArgs false

section
variable {w : World} {b : Nat} {ao : Option Addr} {cap : Nat} {zs : List Int} {c s : Nat}

theorem Scan.drewN' (h : Scan w b ao cap zs c s) (n : Nat) : Scan (w.drewN n) b ao cap zs c s := ⟨h.blk, h.src, h.cb, h.sb, h.len, h.byte⟩
theorem pos_is (h : Scan w b ao cap zs c s) {P : Int} (hp : posOf zs.length c = P) :
    Calls Try.prog 15 #[.pointer (some ⟨b, 0, none⟩)] w fun e w' => e = .returned (.int .i64 P) ∧ w = w' := by
  have g1 : w.cell? ⟨b, 1, none⟩ = some (.int .i64 P) := by rw [← hp]; exact blk_cell h.blk 1 _ rfl
  clear h hp
  go_enter Try.func15, Try.ntmps15
  go_wp2
  go_ret
  exact ⟨rfl, rfl⟩
theorem npos_is (h : Scan w b ao cap zs c s) {P : Int} (hp : nposOf zs.length c = P) :
    Calls Try.prog 14 #[.pointer (some ⟨b, 0, none⟩)] w fun e w' => e = .returned (.int .i64 P) ∧ Scan w' b ao cap zs c s ∧ w.grownBy w' (some b) := by
  have H := Lib.hid h
  have HN := Lib.hid (npos_any h)
  rw [hp] at HN
  clear h hp
  go_enter Try.func14, Try.ntmps14
  go_wp2_with fail
  refine HN.out.mono ?_
  rintro e w' ⟨rfl, k, rfl⟩
  go_wp2_with fail
  go_ret
  exact ⟨rfl, H.out.drewN' _, one_drewN (one_refl _ _) _⟩
theorem next_is (h : Scan w b ao cap zs c s) {z : Int} {d : Nat} (hz : chr zs c = z) (hd : min (c + 1) (zs.length + 1) = d) :
    Calls Try.prog 17 #[.pointer (some ⟨b, 0, none⟩)] w fun e w' => e = .returned (.int .i64 z) ∧ Scan w' b ao cap zs d s ∧ w.grownBy w' (some b) := by
  subst hz hd; exact next_any h
theorem peek_is (h : Scan w b ao cap zs c s) {z : Int} {d : Nat} (hz : chr zs c = z) (hd : peekC zs.length c = d) :
    Calls Try.prog 16 #[.pointer (some ⟨b, 0, none⟩)] w fun e w' => e = .returned (.int .i64 z) ∧ Scan w' b ao cap zs d s ∧ w.grownBy w' (some b) := by
  subst hz hd; exact peek_any h
end
theorem zzNewS_any (ao : Option Addr) (n cap : Nat) (w : World) :
    Calls Try.prog 13 #[.slice ao n cap] w fun e w' => e = .returned (.pointer (some ⟨w.heap.size, 0, none⟩)) ∧ w.alloc (.cells #[.slice ao n cap, .int .i64 0, .bool false, .int .i64 0, .bool false] 45) = w' := by
  go_enter Try.func13, Try.ntmps13
  go_wp2_with fail
  refine (newScan_any _ _ _ _).mono ?_
  rintro e w' ⟨rfl, rfl⟩
  go_wp2_with fail
  go_ret
  exact ⟨rfl, rfl⟩
theorem guardW_any (a : Option Addr) (n cap : Nat) (hn : n ≤ 9223372036854775807) (w : World) : Calls Try.prog 12 #[.slice a n cap] w fun e w' => e = .returned (.bool (decide (n ≤ 1048576))) ∧ w = w' := by
  by_cases h : n ≤ 1048576
  all_goals
    go_enter Try.func12, Try.ntmps12
    go_wp2
    go_ret
    exact ⟨ret_bool (by simp; omega), rfl⟩
theorem infoB : (Try.prog.info? 5).map (fun i => (i.zero, i.size, i.bytes)) = some (some (.int .u8 0), 1, 1) := by kernel_rfl
theorem sizeB : (Try.prog.info? 5).map (·.size) = some 1 := by kernel_rfl

end Go.Proofs.Ytlokpjjjpgjbcaa
