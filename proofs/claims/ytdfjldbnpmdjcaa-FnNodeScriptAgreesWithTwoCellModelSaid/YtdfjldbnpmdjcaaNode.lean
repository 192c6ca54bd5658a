/-
  The contracts of ast.Node's four methods over two cells that lie one after the other. No condition beyond that the cells hold ints.
-/
import Derived.Test.YtdfjldbnpmdjcaaMem
import Derived.BigGuardPart
import Derived.Laws.StructEq
import Derived.Laws.Tables
import Derived.KernelRfl
namespace Go.Proofs.Ytdfjldbnpmdjcaa
open Go.RowKit
set_option linter.unusedVariables false
set_option linter.unusedSimpArgs false

theorem line_any {w : World} {b o : Nat} {x : Int} (h : w.cell? ⟨b, o, none⟩ = some (.int .i64 x)) :
    Calls Try.prog 6 #[.pointer (some ⟨b, o, none⟩)] w fun e w' => e = .returned (.int .i64 x) ∧ w = w' := by
  go_enter Try.func6, Try.ntmps6
  go_wp2
  go_ret
  exact ⟨rfl, rfl⟩

theorem last_any {w : World} {b o : Nat} {x : Int} (h : w.cell? ⟨b, o + 1, none⟩ = some (.int .i64 x)) :
    Calls Try.prog 7 #[.pointer (some ⟨b, o, none⟩)] w fun e w' => e = .returned (.int .i64 x) ∧ w = w' := by
  have h' : w.cell? ((⟨b, o, none⟩ : Addr).add 1) = some (.int .i64 x) := by rw [addr_add]; exact h
  go_enter Try.func7, Try.ntmps7
  go_wp2
  go_ret
  exact ⟨rfl, rfl⟩

theorem setLine_any {w : World} {b o : Nat} {x : Int} (u : Int) (h : w.cell? ⟨b, o, none⟩ = some (.int .i64 x)) (hf : w.frozen? ⟨b, o, none⟩ = false) :
    Calls Try.prog 8 #[.pointer (some ⟨b, o, none⟩), .int .i64 u] w fun e w' => e = .returned (.tuple #[]) ∧ w' = w.setCell ⟨b, o, none⟩ (.int .i64 u) := by
  go_enter Try.func8, Try.ntmps8
  go_wp2
  go_end0
  exact ⟨rfl, rfl⟩

theorem setLast_any {w : World} {b o : Nat} {x : Int} (u : Int) (h : w.cell? ⟨b, o + 1, none⟩ = some (.int .i64 x)) (hf : w.frozen? ⟨b, o + 1, none⟩ = false) :
    Calls Try.prog 9 #[.pointer (some ⟨b, o, none⟩), .int .i64 u] w fun e w' => e = .returned (.tuple #[]) ∧ w' = w.setCell ⟨b, o + 1, none⟩ (.int .i64 u) := by
  have h' : w.cell? ((⟨b, o, none⟩ : Addr).add 1) = some (.int .i64 x) := by rw [addr_add]; exact h
  have hf' : w.frozen? ((⟨b, o, none⟩ : Addr).add 1) = false := by rw [addr_add]; exact hf
  go_enter Try.func9, Try.ntmps9
  go_wp2
  go_end0
  exact ⟨rfl, rfl⟩

@[go_sem] theorem eqNode (a b c d : Int) (w : World) : (Op.equalIn 10000 24 (.agg #[.int .i64 a, .int .i64 b]) (.agg #[.int .i64 c, .int .i64 d])).run Try.prog w = .ok (a == c && b == d) w := by
  have u3 := Try.underlying3
  have a3 := Try.isAgg3
  have z3 := Try.sizeOf3
  have hS : Try.prog.underlying 24 = some (.struct (Try.prog.fieldsOf 24)) := by kernel_rfl
  have hp : Try.prog.stoodInHeld 24 = false := by kernel_rfl
  rw [show (10000 : Nat) = 9999 + 1 from rfl, run_equalIn_agg w 9999 24 _ _ hS hp]
  simp only [Program.fieldsOf, Try.underlying24]
  go_simp
  by_cases h1 : a = c <;> by_cases h2 : b = d <;> simp [h1, h2]

end Go.Proofs.Ytdfjldbnpmdjcaa
