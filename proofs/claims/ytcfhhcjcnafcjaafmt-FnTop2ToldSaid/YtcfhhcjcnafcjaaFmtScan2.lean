/-
  The contracts of the pattern scanner's methods CurrentPos, Length, Save and Restore, over a scanner known by its cursor. Their condition: the scanner lies in a block of its own.
-/
import Derived.Test.YtcfhhcjcnafcjaaFmtScan
namespace Go.Proofs.YtcfhhcjcnafcjaaFmt
open Go.RowKit
set_option linter.unusedVariables false
set_option linter.unusedSimpArgs false

section
variable {w : World} {b : Nat} {ao : Option Addr} {cap : Nat} {zs : List Int} {c s : Nat}

theorem cur_any (h : Scan w b ao cap zs c s) :
    Calls Tryf.prog 28 #[.pointer (some ⟨b, 0, none⟩)] w fun e w' => e = .returned (.int .i64 (posOf zs.length c)) ∧ w = w' := by
  have g1 : w.cell? ⟨b, 1, none⟩ = some (.int .i64 (posOf zs.length c)) := blk_cell h.blk 1 _ rfl
  clear h
  go_enter Tryf.func28, Tryf.ntmps28
  go_wp2
  go_ret
  exact ⟨rfl, rfl⟩

theorem len_any (h : Scan w b ao cap zs c s) :
    Calls Tryf.prog 32 #[.pointer (some ⟨b, 0, none⟩)] w fun e w' => e = .returned (.int .i64 (zs.length : Int)) ∧ w = w' := by
  have g0 : w.cell? ⟨b, 0, none⟩ = some (.slice ao zs.length cap) := blk_cell h.blk 0 _ rfl
  clear h
  go_enter Tryf.func32, Tryf.ntmps32
  go_wp2
  go_ret
  exact ⟨rfl, rfl⟩

theorem save_any (h : Scan w b ao cap zs c s) :
    Calls Tryf.prog 26 #[.pointer (some ⟨b, 0, none⟩)] w fun e w' => e = .returned (.tuple #[]) ∧ Scan w' b ao cap zs c c ∧ w.grownBy w' (some b) := by
  have g1 : w.cell? ⟨b, 1, none⟩ = some (.int .i64 (posOf zs.length c)) := blk_cell h.blk 1 _ rfl
  have g2 : w.cell? ⟨b, 2, none⟩ = some (.bool (decide (0 < c))) := blk_cell h.blk 2 _ rfl
  have g3 : w.cell? ⟨b, 3, none⟩ = some (.int .i64 (posOf zs.length s)) := blk_cell h.blk 3 _ rfl
  have g4 : w.cell? ⟨b, 4, none⟩ = some (.bool (decide (0 < s))) := blk_cell h.blk 4 _ rfl
  have f3 := blk_free h.blk 3
  have f4 := blk_free h.blk 4
  have H := Lib.hid h
  clear h
  generalize hP : posOf zs.length c = P at *
  generalize hS : decide (0 < c) = S at *
  generalize hP' : posOf zs.length s = P' at *
  generalize hS' : decide (0 < s) = S' at *
  have HP := Lib.hid hP
  have HS := Lib.hid hS
  clear hP hS hP' hS'
  go_enter Tryf.func26, Tryf.ntmps26
  go_wp2
  go_end0
  have hg := one_setCell (one_setCell (one_refl w (some b)) (p := ⟨b, 3, none⟩) (.inl rfl) (.int .i64 P)) (p := ⟨b, 4, none⟩) (.inl rfl) (.bool S)
  refine ⟨rfl, H.out.step hg H.out.cb H.out.cb ?_, hg⟩
  rw [HP.out, HS.out]
  exact (blk_set (blk_set H.out.blk 3 _) 4 _).trans (by rw [HP.out, HS.out]; rfl)

theorem restore_any (h : Scan w b ao cap zs c s) :
    Calls Tryf.prog 29 #[.pointer (some ⟨b, 0, none⟩)] w fun e w' => e = .returned (.tuple #[]) ∧ Scan w' b ao cap zs s s ∧ w.grownBy w' (some b) := by
  have g1 : w.cell? ⟨b, 1, none⟩ = some (.int .i64 (posOf zs.length c)) := blk_cell h.blk 1 _ rfl
  have g2 : w.cell? ⟨b, 2, none⟩ = some (.bool (decide (0 < c))) := blk_cell h.blk 2 _ rfl
  have g3 : w.cell? ⟨b, 3, none⟩ = some (.int .i64 (posOf zs.length s)) := blk_cell h.blk 3 _ rfl
  have g4 : w.cell? ⟨b, 4, none⟩ = some (.bool (decide (0 < s))) := blk_cell h.blk 4 _ rfl
  have f1 := blk_free h.blk 1
  have f2 := blk_free h.blk 2
  have H := Lib.hid h
  clear h
  generalize hP : posOf zs.length c = P at *
  generalize hS : decide (0 < c) = S at *
  generalize hP' : posOf zs.length s = P' at *
  generalize hS' : decide (0 < s) = S' at *
  have HP := Lib.hid hP'
  have HS := Lib.hid hS'
  clear hP hS hP' hS'
  go_enter Tryf.func29, Tryf.ntmps29
  go_wp2
  go_end0
  have hg := one_setCell (one_setCell (one_refl w (some b)) (p := ⟨b, 1, none⟩) (.inl rfl) (.int .i64 P')) (p := ⟨b, 2, none⟩) (.inl rfl) (.bool S')
  refine ⟨rfl, H.out.step hg H.out.sb H.out.sb ?_, hg⟩
  rw [HP.out, HS.out]
  exact (blk_set (blk_set H.out.blk 1 _) 2 _).trans (by rw [HP.out, HS.out]; rfl)
end

end Go.Proofs.YtcfhhcjcnafcjaaFmt
