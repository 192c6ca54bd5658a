/-
  The contract of Find where the parser raises an error: the error is handed back. Its condition: as its statement says.
-/
import Derived.Test.YtcfhhcjcnafcjaaFmtParsePat
import Derived.Test.YtcfhhcjcnafcjaaFmtErr
import Derived.Test.YtcfhhcjcnafcjaaFmtBytes
import Derived.Defers
import Derived.Recover
import Derived.Laws.Pointers
namespace Go.Proofs.YtcfhhcjcnafcjaaFmt
open Go.RowKit
set_option linter.unusedVariables false
set_option linter.unusedSimpArgs false

@[go_sem] theorem as_perr (v : Value) (w : World) : (Instr.typeAssert (.iface 44 v) 20 44 true).run Tryf.prog w = .ok (.tuple #[v, .bool true]) w := by kernel_rfl
set_option maxHeartbeats 1000000 in
set_option maxRecDepth 100000 in
theorem find_catch (p : Addr) (v : Value) (w : World) (kE : w.cell? p = some .nilIface) (fE : w.frozen? p = false) :
    CallsD Tryf.prog 17 #[.pointer (some p)] (.panicking [{ v := .iface 44 v, recovered := false }]) w fun e u' w' => e = .returned (.tuple #[]) ∧ u' = .panicking [{ v := .iface 44 v, recovered := true }] ∧ w' = w.setCell p (.iface 44 v) := by
  refine callsD_of_wpS Tryf.func17 rfl fun c₀ cs hu => ?_
  apply wpS_seq
  apply wpS_region
  simp [wpOpsS, go_sem, recoverD, hu, Tryf.ntmps17, Exit.thenS]
  apply wpS_seq
  apply wpS_region
  simp [wpOpsS, go_sem, recoverD, hu, Exit.thenS]
  refine wpS_cond (t := true) (by simp [Act.eval, Array.replicate]) ?_
  simp only [if_true]
  refine wpS_of_wp ?_
  change Code.wp _ _ _ { tmps := #[.pointer (some p), .iface 44 v, undef, undef, .iface 44 v, .iface 44 v, .bool true, undef, undef, undef, undef, undef, undef, undef, undef, undef], defers := [] } _
  go_wp2_with fail
  exact ⟨rfl, _, rfl, _, by simp [results, Tryf.results17], rfl, rfl, rfl⟩
/-- Find where the parser raises an error. -/
def FindErr (p : Int) (m : Nat) (w : World) (e : Ending) (w' : World) : Prop :=
  ∃ g, e = .returned (.tuple #[.slice none 0 0, .iface 44 (.pointer (some ⟨g, 0, none⟩))]) ∧ w'.heap[g]? = some (.cells #[.int .i64 p, .string (errTxt m)] 47 (0, 0)) ∧ Below w.heap.size w w'
theorem find_hmf : ∀ (fn : Fn) (first cap : Array Value) (w : World), (Instr.makeFunc fn first cap).run Tryf.prog w = .ok (.func fn first cap) w := fun _ _ _ _ => rfl
set_option maxHeartbeats 2000000 in
set_option maxRecDepth 100000 in
theorem find_err (s : ByteArray) {w : World} (sv : Value) (off limit : Int) {must : Bool} {p : Int} {m : Nat} (hs0 : 0 < s.size) (hs : s.size ≤ 4194304) (hP : PTop (bz s) true 0 must (.err p m)) :
    Calls Tryf.prog 7 #[.string s, sv, .int .i64 off, .int .i64 limit] w (FindErr p m w) := by
  have hmf := find_hmf
  have hcv := Lib.run_convert_string_bytes (P := Tryf.prog) (w.alloc (.cells #[.nilIface] 29)) 9 22 5 s Tryf.underlying9 Tryf.underlying22 Tryf.underlying5
  have HB1 := Lib.hid (bytes_below (w.alloc (.cells #[.nilIface] 29)) 5 s)
  have HC1 := Lib.hid (bytes_cells (w.alloc (.cells #[.nilIface] 29)) 5 s)
  have HE0 := Lib.hid (blk_new w (.cells #[.nilIface] 29))
  have HBw := Lib.hid ((Below.refl w.heap.size w).alloc (Nat.le_refl w.heap.size) (.cells #[.nilIface] 29))
  have hsz : (w.alloc (.cells #[.nilIface] 29)).heap.size = w.heap.size + 1 := by simp
  have HP := Lib.hid hP
  have HL := Lib.hid (bz_length s)
  clear hP
  go_enter_defers Tryf.func7, Tryf.ntmps7
  go_wp2_with fail
  clear hcv hmf
  generalize w.alloc (.cells #[.nilIface] 29) = w0 at *
  generalize hw1 : Lib.bytesWorld w0 5 s = w1 at *
  generalize hg : grownCap w0 s.size 0 5 = gc at *
  clear hw1 hg
  rw [hsz] at HB1 HC1
  refine (newScan_any _ _ _ _).mono ?_
  rintro e w2 ⟨rfl, rfl⟩
  have hs2 : Scan (w1.alloc (.cells #[.slice (some ⟨w.heap.size + 1, 0, none⟩) (bz s).length gc, .int .i64 0, .bool false, .int .i64 0, .bool false] 118)) w1.heap.size (some ⟨w.heap.size + 1, 0, none⟩) gc (bz s) 0 0 :=
    Scan.new (fun _ => ⟨_, _, rfl, HC1.out⟩) (by rw [HL.out]; omega) (bz_byte s)
  rw [HL.out] at hs2
  have HS2 := Lib.hid hs2
  clear hs2
  have kE1 : w1.heap[w.heap.size]? = some (.cells #[.nilIface] 29 (0, 0)) := (HB1.out.block _ (by omega)).trans HE0.out
  have HE2 := Lib.hid (blk_alloc kE1 (.cells #[.slice (some ⟨w.heap.size + 1, 0, none⟩) s.size gc, .int .i64 0, .bool false, .int .i64 0, .bool false] 118))
  have hne : w.heap.size + 1 ≤ w1.heap.size := by have := HB1.out.size; omega
  have HB2 := Lib.hid (HBw.out.trans ((HB1.out.mono (Nat.le_succ _)).alloc (by omega) (.cells #[.slice (some ⟨w.heap.size + 1, 0, none⟩) s.size gc, .int .i64 0, .bool false, .int .i64 0, .bool false] 118)))
  clear kE1
  generalize w1.alloc (.cells #[.slice (some ⟨w.heap.size + 1, 0, none⟩) s.size gc, .int .i64 0, .bool false, .int .i64 0, .bool false] 118) = w2 at *
  generalize w1.heap.size = sb at *
  go_wp2_with fail
  refine (parsePat_r HS2.out (by rw [HL.out]; exact hs0) (by rw [HL.out]; exact hs) HP.out).mono ?_
  rintro e w3 ⟨ch, rfl, hg3, g, rfl, hg, hb⟩
  have hE3 := blk_grown HE2.out hg3 (fun e => by injection e; omega)
  have kE3 := blk_cell hE3 0 _ rfl
  have fE3 := blk_free hE3 0
  have hgE : g ≠ w.heap.size := type_ne hb hE3 (by decide)
  refine leaves_cons (f := 17) (args := #[.pointer (some ⟨w.heap.size, 0, none⟩)]) (by simp) (by simp [go_sem]) ?_
  refine (find_catch ⟨w.heap.size, 0, none⟩ _ w3 kE3 fE3).mono ?_
  rintro e u' w'' ⟨rfl, rfl, rfl⟩
  have kE4 := blk_cell (blk_set hE3 0 (.iface 44 (.pointer (some ⟨g, 0, none⟩)))) 0 _ rfl
  have hb4 := (Below.heap_setCell w3 ⟨w.heap.size, 0, none⟩ (.iface 44 (.pointer (some ⟨g, 0, none⟩))) g hgE).trans hb
  simp [Leaves, settle, results, Tryf.results7, go_sem, kE4]
  trace_state
  exact ⟨g, rfl, hb4, (HB2.out.trans (one_below hg3 (by omega) (by have := HB2.out.size; omega))).setCell (Nat.le_refl _) _⟩
end Go.Proofs.YtcfhhcjcnafcjaaFmt
