/-
  The fixed stack of frames: its state in memory; the contracts of Push, At, and of the making of a stack. Their conditions: as each states.
-/
import Derived.Test.YtjbehcabekkjdaaFmtFn
import Derived.Deep.MidRow
import Derived.StillTailTactics
import Derived.Deep.DeepCutAuto
import Derived.Deep.CutRange
import Derived.Outline
namespace Go.Proofs.YtjbehcabekkjdaaFmt
open Go.RowKit
set_option linter.unusedVariables false
set_option linter.unusedSimpArgs false

/-- The stack's own block c, its array at g with room for N frames, n of them laid: function, parent, tail calls of each. -/
structure StackO (w : World) (c g N n : Nat) (F : Nat → Option Addr × Option Addr × Int) : Prop where
  c0 : w.cell? ⟨c, 0, none⟩ = some (.slice (some ⟨g, 0, none⟩) N N)
  c1 : w.cell? ⟨c, 1, none⟩ = some (.int .i64 n)
  f1 : w.frozen? ⟨c, 1, none⟩ = false
  ro : w.there g 0 (N * 10)
  cg : c ≠ g
  cl : c < w.heap.size
  gl : g < w.heap.size
  fr : ∀ i, i < n → w.cell? ⟨g, i * 10 + 1, none⟩ = some (.pointer (F i).1) ∧ w.cell? ⟨g, i * 10 + 2, none⟩ = some (.pointer (F i).2.1) ∧ w.cell? ⟨g, i * 10 + 3, none⟩ = some (.int .i64 1) ∧ w.cell? ⟨g, i * 10 + 9, none⟩ = some (.int .i64 (F i).2.2)
/-- Nothing that was there is written but the blocks c and g. -/
structure Kept2 (w w' : World) (c g : Nat) : Prop where
  os : w'.os = w.os
  tape : w'.tape = w.tape
  output : w'.output = w.output
  size : w.heap.size ≤ w'.heap.size
  block : ∀ k, k < w.heap.size → k ≠ c → k ≠ g → w'.heap[k]? = w.heap[k]?
theorem Kept2.refl (w : World) (c g : Nat) : Kept2 w w c g := ⟨rfl, rfl, rfl, Nat.le_refl _, fun _ _ _ _ => rfl⟩
theorem Kept2.trans {a b d : World} {c g : Nat} (h : Kept2 a b c g) (k : Kept2 b d c g) : Kept2 a d c g :=
  ⟨k.os.trans h.os, k.tape.trans h.tape, k.output.trans h.output, Nat.le_trans h.size k.size, fun i hi h1 h2 => (k.block i (Nat.lt_of_lt_of_le hi h.size) h1 h2).trans (h.block i hi h1 h2)⟩
theorem Kept2.drew {a b : World} {c g : Nat} (h : Kept2 a b c g) : Kept2 a b.drew c g := ⟨h.os, h.tape, h.output, h.size, h.block⟩
theorem Kept2.alloc {a b : World} {c g : Nat} (h : Kept2 a b c g) (o : Obj) : Kept2 a (b.alloc o) c g :=
  ⟨h.os, h.tape, h.output, Nat.le_trans h.size (by simp), fun i hi h1 h2 => (Below.heap_alloc b o i (Nat.lt_of_lt_of_le hi h.size)).trans (h.block i hi h1 h2)⟩
theorem Kept2.setCell {a b : World} {c g : Nat} (h : Kept2 a b c g) {p : Addr} (hp : p.block = c ∨ p.block = g) (u : Value) : Kept2 a (b.setCell p u) c g :=
  ⟨h.os, h.tape, h.output, by simpa [World.setCell] using h.size, fun i hi h1 h2 => (Below.heap_setCell b p u i (by rintro rfl; rcases hp with hp | hp <;> contradiction)).trans (h.block i hi h1 h2)⟩
theorem Kept2.setCells {a : World} {c g : Nat} : ∀ (vs : List Value) (o : Nat) {b : World}, Kept2 a b c g → Kept2 a (b.setCells g o vs) c g
  | [], _, _, h => h
  | v :: r, o, b, h => by rw [World.setCells]; exact Kept2.setCells r (o + 1) (h.setCell (.inr rfl) v)
theorem Kept2.cell {a b : World} {c g : Nat} (h : Kept2 a b c g) {k i : Nat} (hk : k < a.heap.size) (h1 : k ≠ c) (h2 : k ≠ g) : b.cell? ⟨k, i, none⟩ = a.cell? ⟨k, i, none⟩ := World.cell?_of_block (h.block k hk h1 h2)
theorem Kept2.below {a b : World} {c g B : Nat} (h : Kept2 a b c g) (h1 : B ≤ c) (h2 : B ≤ g) (hs : B ≤ a.heap.size) : Below B a b :=
  ⟨h.os, h.tape, h.output, h.size, fun i hi => h.block i (Nat.lt_of_lt_of_le hi hs) (by omega) (by omega)⟩
theorem StackO.drew {w : World} {c g N n : Nat} {F : Nat → Option Addr × Option Addr × Int} (h : StackO w c g N n F) : StackO w.drew c g N n F := ⟨h.c0, h.c1, h.f1, h.ro, h.cg, h.cl, h.gl, h.fr⟩
theorem StackO.kept {w w' : World} {c g N n : Nat} {F : Nat → Option Addr × Option Addr × Int} (h : StackO w c g N n F) (hc : w'.heap[c]? = w.heap[c]?) (hg : w'.heap[g]? = w.heap[g]?) (hs : w.heap.size ≤ w'.heap.size) : StackO w' c g N n F := by
  have kc : ∀ i, w'.cell? ⟨c, i, none⟩ = w.cell? ⟨c, i, none⟩ := fun i => World.cell?_of_block hc
  have kg : ∀ i, w'.cell? ⟨g, i, none⟩ = w.cell? ⟨g, i, none⟩ := fun i => World.cell?_of_block hg
  have fc : ∀ i, w'.frozen? ⟨c, i, none⟩ = w.frozen? ⟨c, i, none⟩ := fun i => by simp [World.frozen?, hc]
  have fg : ∀ i, w'.frozen? ⟨g, i, none⟩ = w.frozen? ⟨g, i, none⟩ := fun i => by simp [World.frozen?, hg]
  exact ⟨(kc _).trans h.c0, (kc _).trans h.c1, (fc _).trans h.f1, fun j hj => ⟨by rw [kg]; exact (h.ro j hj).1, by rw [fg]; exact (h.ro j hj).2⟩, h.cg, Nat.lt_of_lt_of_le h.cl hs, Nat.lt_of_lt_of_le h.gl hs,
    fun i hi => ⟨(kg _).trans (h.fr i hi).1, (kg _).trans (h.fr i hi).2.1, (kg _).trans (h.fr i hi).2.2.1, (kg _).trans (h.fr i hi).2.2.2⟩⟩
theorem StackO.alloc {w : World} {c g N n : Nat} {F : Nat → Option Addr × Option Addr × Int} (h : StackO w c g N n F) (o : Obj) : StackO (w.alloc o) c g N n F :=
  h.kept (Below.heap_alloc w o c h.cl) (Below.heap_alloc w o g h.gl) (by simp)
theorem StackO.setRow {w : World} {c g N n : Nat} {F : Nat → Option Addr × Option Addr × Int} (h : StackO w c g N n F) (vs : List Value) : StackO (w.setCells g (n * 10) vs) c g N n F := by
  have hs : (w.setCells g (n * 10) vs).heap.size = w.heap.size := by
    have : ∀ (vs : List Value) (o : Nat) (w : World), (w.setCells g o vs).heap.size = w.heap.size := by
      intro vs
      induction vs with
      | nil => intro o w; rfl
      | cons v r ih => intro o w; rw [World.setCells, ih]; simp [World.setCell]
    exact this vs _ w
  have kc : ∀ i, (w.setCells g (n * 10) vs).cell? ⟨c, i, none⟩ = w.cell? ⟨c, i, none⟩ := fun i => World.cell?_setCells_out g vs _ w _ (fun e => absurd e h.cg)
  have kg : ∀ i, i < n * 10 → (w.setCells g (n * 10) vs).cell? ⟨g, i, none⟩ = w.cell? ⟨g, i, none⟩ := fun i hi => World.cell?_setCells_out g vs _ w _ (fun _ _ => .inl hi)
  exact ⟨(kc _).trans h.c0, (kc _).trans h.c1, by rw [World.frozen?_setCells]; exact h.f1, World.there_setCells h.ro _ _ _, h.cg, by rw [hs]; exact h.cl, by rw [hs]; exact h.gl,
    fun i hi => ⟨(kg _ (by omega)).trans (h.fr i hi).1, (kg _ (by omega)).trans (h.fr i hi).2.1, (kg _ (by omega)).trans (h.fr i hi).2.2.1, (kg _ (by omega)).trans (h.fr i hi).2.2.2⟩⟩
def upd (F : Nat → Option Addr × Option Addr × Int) (n : Nat) (x : Option Addr × Option Addr × Int) : Nat → Option Addr × Option Addr × Int := fun i => if i = n then x else F i
theorem frame_info : (Tryf.prog.info? 89).map (fun i => (i.zero, i.size, i.bytes)) = some (some (.agg #[.int .i64 0, .pointer none, .pointer none, .int .i64 0, .int .i64 0, .int .i64 0, .int .i64 0, .int .i64 0, .int .i64 0, .int .i64 0]), 10, 80) := by kernel_rfl
def frCells (pf pp : Option Addr) (t : Int) : Array Value := #[.int .i64 0, .pointer pf, .pointer pp, .int .i64 1, .int .i64 0, .int .i64 0, .int .i64 0, .int .i64 0, .int .i64 0, .int .i64 t]
theorem still_load_mid {P : Program} {ops : Array Oper} {w : World} {Q : Act → Prop} {a : Act} {o : Oper} {rest : List Oper} (hw : Region.wanted o (yielded ops a.tmps) = true) (ty : TypeId) (x : Operand) (ho : o.op = .load ty x) (b off : Nat) (hx : a.eval x = .pointer (some ⟨b, off, none⟩))
    (cs : List Value) (d : TypeDesc) (hc : w.rangeAt b off cs) (hu : P.underlying ty = some d) (hd : d.isRow = true) (hi : (P.info? ty).map (·.size) = some cs.length) (h : wpStill P ops w Q rest (a.put o.dst (.agg cs.toArray))) : wpStill P ops w Q (o :: rest) a := by
  unfold wpStill
  rw [if_pos hw]
  unfold Oper.still execOp
  simp only [ho, hx, Instr.loadAt, Instr.sureAddr, Sem.run_bind, Sem.run_pure, Result.andThen_ok, run_loadVar_mid w b off ty cs d hc hu hd hi]
  exact (Oper.stillUpon_value ..).mpr h
theorem push_done {w : World} {c g N n : Nat} {F : Nat → Option Addr × Option Addr × Int} {pf pp : Option Addr} {t : Int} (h : StackO w c g N n F) (hr : ∀ j v, 0 < j → (frCells pf pp t).toList[j]? = some v → w.cell? ⟨g, n * 10 + j, none⟩ = some v) : StackO (w.setCell ⟨c, 1, none⟩ (.int .i64 ((n : Int) + 1))) c g N (n + 1) (upd F n (pf, pp, t)) := by
  have kg : ∀ i, (w.setCell ⟨c, 1, none⟩ (.int .i64 ((n : Int) + 1))).cell? ⟨g, i, none⟩ = w.cell? ⟨g, i, none⟩ := fun i => World.cell?_setCell_other _ _ _ _ (fun e => by injection e with e; exact h.cg e)
  refine ⟨(World.cell?_setCell_other _ _ _ _ (fun e => by injection e; omega)).trans h.c0, World.cell?_setCell_same _ _ _ h.c1, by rw [World.frozen?_setCell]; exact h.f1, fun j hj => ⟨by rw [kg]; exact (h.ro j hj).1, by rw [World.frozen?_setCell]; exact (h.ro j hj).2⟩, h.cg, by simpa [World.setCell] using h.cl, by simpa [World.setCell] using h.gl, fun i hi => ?_⟩
  rw [kg, kg, kg, kg]
  unfold upd
  by_cases he : i = n
  · subst he
    rw [if_pos rfl]
    exact ⟨hr 1 _ (by omega) rfl, hr 2 _ (by omega) rfl, hr 3 _ (by omega) rfl, hr 9 _ (by omega) rfl⟩
  · rw [if_neg he]
    exact h.fr i (by omega)
set_option maxRecDepth 100000 in
set_option maxHeartbeats 2000000 in
theorem push_any {w : World} {c g N n : Nat} {F : Nat → Option Addr × Option Addr × Int} (h : StackO w c g N n F) (hn : n < N) (hN : N ≤ 4096) (pf pp : Option Addr) (t : Int) :
    Calls Tryf.prog 35 #[.pointer (some ⟨c, 0, none⟩), .agg (frCells pf pp t)] w fun e w' => e = .returned (.tuple #[]) ∧ StackO w' c g N (n + 1) (upd F n (pf, pp, t)) ∧ Kept2 w w' c g := by
  have H := Lib.hid h
  have HK := Lib.hid ((Kept2.refl w c g).alloc (.cells (frCells pf pp t) 89))
  have HB := Lib.hid (blk_new w (.cells (frCells pf pp t) 89))
  have HCL := Lib.hid h.cl
  have HGL := Lib.hid h.gl
  have H1 := Lib.hid (h.alloc (.cells (frCells pf pp t) 89)).drew
  have k0 : (w.alloc (.cells (frCells pf pp t) 89)).cell? ⟨c, 0, none⟩ = some (.slice (some ⟨g, 0, none⟩) N N) := (World.cell?_alloc_lt _ _ _ h.cl).trans h.c0
  have k1 : (w.alloc (.cells (frCells pf pp t) 89)).cell? ⟨c, 1, none⟩ = some (.int .i64 n) := (World.cell?_alloc_lt _ _ _ h.cl).trans h.c1
  have kr : (w.alloc (.cells (frCells pf pp t) 89)).rangeAt w.heap.size 0 (frCells pf pp t).toList := by
    have := World.rangeAt_of_block HB.out 0 10
    exact this
  have h1 : (n : Int) < (N : Int) := by omega
  have h2 : (0 : Int) ≤ (n : Int) := by omega
  have KR := Lib.hid kr
  clear h kr
  go_enter Tryf.func35, Tryf.ntmps35
  go_wp2_with fail
  generalize w.alloc (.cells (frCells pf pp t) 89) = w1 at *
  obtain ⟨if0, hif, hiz, his, hib⟩ := info_parts' frame_info
  have hsz : (Tryf.prog.info? 89).map (·.size) = some (frCells pf pp t).toList.length := by rw [hif]; simp only [Option.map_some, his]; rfl
  have HSZ := Lib.hid hsz
  clear hif hiz his hib hsz
  go_still_tail 10, (by kernel_rfl)
  refine still_load_mid (by rfl) 89 (.tmp 3) rfl w.heap.size 0 (by rfl) (frCells pf pp t).toList _ KR.out Tryf.underlying89 rfl HSZ.out ?_
  repeat still_step
  refine wpStill_nil ?_
  change wpList _ _ _ _ _ w1.drew
  have hro : w1.drew.there g (n * 10) (frCells pf pp t).size := by
    have hr := H1.out.ro
    intro j hj
    have hj' : j < 10 := hj
    have := hr (n * 10 + j) (by omega)
    rw [Nat.zero_add] at this
    exact this
  refine wpList_store_mid rfl 89 (.tmp 13) (.tmp 12) rfl g (n * 10) (frCells pf pp t) (by rfl) (by rfl) hro HSZ.out (by simp [frCells, Value.oneCell']) ?_
  have H2 := Lib.hid (H1.out.setRow (frCells pf pp t).toList)
  have HK2 := Lib.hid (Kept2.setCells (frCells pf pp t).toList (n * 10) HK.out.drew)
  have HR2 := Lib.hid (World.rangeAt_setCells_same w1.drew g (n * 10) (frCells pf pp t).toList hro)
  generalize hw2 : w1.drew.setCells g (n * 10) (frCells pf pp t).toList = w2 at *
  clear hw2 hro k0 k1 KR HB
  have k0 := H2.out.c0
  have k1 := H2.out.c1
  have k3 : w2.cell? ⟨g, n * 10, none⟩ = some (.int .i64 0) := HR2.out 0 _ rfl
  have f3 : w2.frozen? ⟨g, n * 10, none⟩ = false := by have := (H2.out.ro (n * 10) (by omega)).2; rwa [Nat.zero_add] at this
  go_wp2_with fail
  go_still_tail 14, (by kernel_rfl)
  change wpList _ _ _ _ _ w2.drew
  go_upto_region 3 with (fail)
  have H3 : Hid (StackO (w2.setCell ⟨g, n * 10, none⟩ (.int .i64 n)).drew c g N n F) := Lib.hid (H2.out.setRow [.int .i64 n]).drew
  have HK3 := Lib.hid (HK2.out.setCell (p := ⟨g, n * 10, none⟩) (.inr rfl) (.int .i64 n)).drew
  have HR3 : Hid (∀ j v, 0 < j → (frCells pf pp t).toList[j]? = some v → (w2.setCell ⟨g, n * 10, none⟩ (.int .i64 n)).drew.cell? ⟨g, n * 10 + j, none⟩ = some v) := Lib.hid (fun j v h0 hj => (World.cell?_setCell_other _ _ _ _ (fun e => by injection e; omega)).trans (HR2.out j v hj))
  generalize (w2.setCell ⟨g, n * 10, none⟩ (.int .i64 n)).drew = w3 at *
  clear k0 k1 k3 f3
  have k1 := H3.out.c1
  have f1 := H3.out.f1
  have HD := Lib.hid (push_done H3.out HR3.out)
  have HK4 := Lib.hid (HK3.out.setCell (p := ⟨c, 1, none⟩) (.inl rfl) (.int .i64 ((n : Int) + 1)))
  go_wp2_with fail
  go_end0
  exact ⟨rfl, HD.out, HK4.out⟩
end Go.Proofs.YtjbehcabekkjdaaFmt
