/-
  Laws for the pair model of n005_5: a MatchData beside two rows of the law's own, one of values, one of flags. Conditions as each states.
-/
import Derived.Test.YtfobgfmejfbanaaHelp5b
namespace Go.Proofs.Ytfobgfmejfbanaa
open Go.RowKit
set_option linter.unusedVariables false
set_option linter.unusedSimpArgs false

theorem own_type {w : World} {B : Nat} {T : TypeId} {sz : Nat} {ao : Option Addr} {n cap : Nat} {xs : List Value} (ho : w.ownsRow B T sz (.slice ao n cap) n xs) : ∀ g, blkOf ao = some g → ∃ c, w.heap[g]? = some (.cells c T (0, 0)) := by
  intro g' hg'
  rcases ho.2 with ⟨h1, h2⟩ | ⟨g, c, cur, h1, _, hg, _⟩
  · simp only [Value.slice.injEq] at h1
    rw [h1.1] at hg'; simp [blkOf] at hg'
  · simp only [Value.slice.injEq] at h1
    rw [h1.1] at hg'
    simp only [blkOf, Option.map_some, Option.some.injEq] at hg'
    subst hg'
    exact ⟨_, hg⟩
theorem type_ne {w : World} {g m : Nat} {c d : Array Value} {T U : TypeId} {r q : Nat × Nat} (h : w.heap[g]? = some (.cells c T r)) (k : w.heap[m]? = some (.cells d U q)) (hne : T ≠ U) : g ≠ m := by
  rintro rfl
  rw [h] at k
  simp only [Option.some.injEq, Obj.cells.injEq] at k
  exact hne k.2.1
theorem owns_kept {w w' : World} {B : Nat} {T : TypeId} {sz : Nat} {ao : Option Addr} {n cap : Nat} {xs : List Value} (ho : w.ownsRow B T sz (.slice ao n cap) n xs) (hk : ∀ g o, blkOf ao = some g → w.heap[g]? = some o → w'.heap[g]? = some o) : w'.ownsRow B T sz (.slice ao n cap) n xs := by
  refine ⟨ho.1, ?_⟩
  rcases ho.2 with h2 | ⟨g, c, cur, h1, hb, hg, r⟩
  · exact .inl h2
  · refine .inr ⟨g, c, cur, h1, hb, hk g _ ?_ hg, r⟩
    simp only [Value.slice.injEq] at h1
    rw [h1.1]; rfl

abbrev valOf (u : Int) : Value := .int .i64 (u / 2)
abbrev flgOf (u : Int) : Value := .bool (u % 2 == 1)

/-- A MatchData with the words us, a row of values and a row of flags of the words vs; all of it made since B. -/
structure Tri (w : World) (B m : Nat) (ao : Option Addr) (cap : Nat) (us : List Int) (va : Option Addr) (vc : Nat) (fa : Option Addr) (fc : Nat) (vs : List Int) : Prop where
  md : MD w m ao cap us
  hm : B ≤ m
  hr : ∀ g, blkOf ao = some g → B ≤ g
  vo : w.ownsRow B 3 1 (.slice va vs.length vc) vs.length (vs.map valOf)
  fo : w.ownsRow B 4 1 (.slice fa vs.length fc) vs.length (vs.map flgOf)

section
variable {w w1 : World} {B m cap vc fc : Nat} {ao va fa : Option Addr} {us vs : List Int}
/-- Which blocks differ. -/
theorem Tri.apart (h : Tri w B m ao cap us va vc fa fc vs) : (∀ g, blkOf va = some g → g ≠ m ∧ some g ≠ blkOf ao ∧ some g ≠ blkOf fa) ∧ (∀ g, blkOf fa = some g → g ≠ m ∧ some g ≠ blkOf ao ∧ some g ≠ blkOf va) ∧ (∀ g, blkOf ao = some g → g ≠ m ∧ some g ≠ blkOf va ∧ some g ≠ blkOf fa) := by
  refine ⟨fun g hg => ?_, fun g hg => ?_, fun g hg => ?_⟩
  · obtain ⟨c, hc⟩ := own_type h.vo g hg
    refine ⟨type_ne hc h.md.blk (by decide), fun e => ?_, fun e => ?_⟩
    · obtain ⟨d, hd⟩ := own_type h.md.own g e.symm; exact type_ne hc hd (by decide) rfl
    · obtain ⟨d, hd⟩ := own_type h.fo g e.symm; exact type_ne hc hd (by decide) rfl
  · obtain ⟨c, hc⟩ := own_type h.fo g hg
    refine ⟨type_ne hc h.md.blk (by decide), fun e => ?_, fun e => ?_⟩
    · obtain ⟨d, hd⟩ := own_type h.md.own g e.symm; exact type_ne hc hd (by decide) rfl
    · obtain ⟨d, hd⟩ := own_type h.vo g e.symm; exact type_ne hc hd (by decide) rfl
  · obtain ⟨c, hc⟩ := own_type h.md.own g hg
    refine ⟨type_ne hc h.md.blk (by decide), fun e => ?_, fun e => ?_⟩
    · obtain ⟨d, hd⟩ := own_type h.vo g e.symm; exact type_ne hc hd (by decide) rfl
    · obtain ⟨d, hd⟩ := own_type h.fo g e.symm; exact type_ne hc hd (by decide) rfl
theorem Tri.alloc (h : Tri w B m ao cap us va vc fa fc vs) (o : Obj) : Tri (w.alloc o) B m ao cap us va vc fa fc vs :=
  ⟨h.md.kept (Below.heap_alloc _ _ _ h.md.lt) (fun g hg => Below.heap_alloc _ _ _ (h.md.row' g hg).2), h.hm, h.hr, h.vo.alloc o, h.fo.alloc o⟩
/-- A write of the MatchData. -/
theorem Tri.moved {ao' : Option Addr} {cap' : Nat} {us' : List Int} (h : Tri w B m ao cap us va vc fa fc vs) (hm : MD w1 m ao' cap' us') (hv : Moved w w1 m ao ao') (hB : B ≤ w.heap.size) : Tri w1 B m ao' cap' us' va vc fa fc vs :=
  ⟨hm, h.hm, hv.rowB h.hr hB, hv.owns h.vo (fun g hg => ⟨(h.apart.1 g hg).1, (h.apart.1 g hg).2.1⟩), hv.owns h.fo (fun g hg => ⟨(h.apart.2.1 g hg).1, (h.apart.2.1 g hg).2.1⟩)⟩
/-- What an append to the row of values leaves. -/
theorem Tri.kept_v {row : Option Nat} (h : Tri w B m ao cap us va vc fa fc vs) (hg : w.grownBy w1 (blkOf va)) : MD w1 m ao cap us ∧ w1.ownsRow B 4 1 (.slice fa vs.length fc) vs.length (vs.map flgOf) :=
  ⟨h.md.kept (hg.block m h.md.lt (fun e => (h.apart.1 m e.symm).1 rfl)) (fun g hgg => hg.block g (h.md.row' g hgg).2 (fun e => (h.apart.2.2 g hgg).2.1 e)),
   owns_kept h.fo (fun g o hgg ho => blk_grown ho hg (fun e => (h.apart.2.1 g hgg).2.2 e))⟩
/-- Both rows longer by one. -/
theorem Tri.push {w2 : World} {g1 c1 g2 c2 : Nat} {o1 o2 : Obj} (h : Tri w B m ao cap us va vc fa fc vs)
    (hg1 : (w.alloc o1).grownBy w1 (blkOf va)) (hown1 : w1.ownsRow B 3 1 (.slice (some ⟨g1, 0, none⟩) (vs.length + 1) c1) (vs.length + 1) (vs.map valOf ++ [.int .i64 0]))
    (hg2 : (w1.alloc o2).grownBy w2 (blkOf fa)) (hown2 : w2.ownsRow B 4 1 (.slice (some ⟨g2, 0, none⟩) (vs.length + 1) c2) (vs.length + 1) (vs.map flgOf ++ [.bool false])) :
    Tri w2 B m ao cap us (some ⟨g1, 0, none⟩) c1 (some ⟨g2, 0, none⟩) c2 (vs ++ [0]) := by
  have k1 := (h.alloc o1).kept_v (row := none) hg1
  have hmm : some m ≠ blkOf fa := fun e => (h.apart.2.1 m e.symm).1 rfl
  have k2 : MD w2 m ao cap us := (k1.1.kept (w' := w1.alloc o2) (Below.heap_alloc _ _ _ k1.1.lt) (fun g hg => Below.heap_alloc _ _ _ (k1.1.row' g hg).2)).kept (hg2.block m (by have := k1.1.lt; simp; omega) hmm)
    (fun g hgg => hg2.block g (by have := (k1.1.row' g hgg).2; simp; omega) (fun e => (h.apart.2.2 g hgg).2.2 e))
  refine ⟨k2, h.hm, h.hr, ?_, ?_⟩
  · have hk : w2.ownsRow B 3 1 (.slice (some ⟨g1, 0, none⟩) (vs.length + 1) c1) (vs.length + 1) (vs.map valOf ++ [.int .i64 0]) := owns_kept (hown1.alloc o2) (fun g o hgg ho => blk_grown ho hg2 (fun e => by
      obtain ⟨c, hc⟩ := own_type (hown1.alloc o2) g hgg
      obtain ⟨d, hd⟩ := own_type (k1.2.alloc o2) g e.symm
      exact type_ne hc hd (by decide) rfl))
    simpa [valOf] using hk
  · simpa [flgOf] using hown2
theorem Tri.below (h : Tri w B m ao cap us va vc fa fc vs) : (∀ g, blkOf va = some g → B ≤ g ∧ g < w.heap.size) ∧ (∀ g, blkOf fa = some g → B ≤ g ∧ g < w.heap.size) :=
  ⟨fun g hg => own_block h.vo g hg, fun g hg => own_block h.fo g hg⟩
theorem grown_below {a b : World} {o : Obj} {row : Option Nat} (h : (a.alloc o).grownBy b row) (hr : ∀ g, row = some g → B ≤ g) (hB : B ≤ a.heap.size) : Below B a b := by
  refine ⟨h.os, h.tape, h.output, Nat.le_trans (by simp) h.size, fun q hq => ?_⟩
  refine (h.block q (by simp; omega) (fun e => ?_)).trans (Below.heap_alloc a _ q (by omega))
  have := hr q e.symm
  omega
/-- A store into both rows: the value p, the flag f. -/
theorem Tri.store {gv gf : Nat} (h : Tri w B m ao cap us (some ⟨gv, 0, none⟩) vc (some ⟨gf, 0, none⟩) fc vs) (i : Nat) (u : Int) {x : Int} {f : Bool} (hx : u / 2 = x) (hf : (u % 2 == 1) = f) :
    Tri ((w.setCell ⟨gv, i, none⟩ (.int .i64 x)).setCell ⟨gf, i, none⟩ (.bool f)) B m ao cap us (some ⟨gv, 0, none⟩) vc (some ⟨gf, 0, none⟩) fc (vs.set i u) := by
  obtain ⟨av, af, aa⟩ := h.apart
  have av := av gv rfl
  have af := af gf rfl
  have hne : gv ≠ gf := fun e => av.2.2 (by rw [e]; rfl)
  have s1 := (h.vo.stored i (.int .i64 x)).1
  have o1 := ownsRow_setCell_other h.fo (a := ⟨gv, i, none⟩) (by rw [ownBlock_slice]; simpa [blkOf] using fun e : gf = gv => hne e.symm) (.int .i64 x)
  have s2 := ownsRow_setCell_other s1 (a := ⟨gf, i, none⟩) (by rw [ownBlock_slice]; simpa [blkOf] using hne) (.bool f)
  have o2 := (o1.stored i (.bool f)).1
  refine ⟨?_, h.hm, h.hr, ?_, ?_⟩
  · refine h.md.kept ?_ (fun g hg => ?_)
    · rw [Below.heap_setCell _ _ _ _ (show m ≠ gf from fun e => af.1 e.symm), Below.heap_setCell _ _ _ _ (show m ≠ gv from fun e => av.1 e.symm)]
    · rw [Below.heap_setCell _ _ _ _ (show g ≠ gf from fun e => af.2.1 (by rw [hg, e])), Below.heap_setCell _ _ _ _ (show g ≠ gv from fun e => av.2.1 (by rw [hg, e]))]
  · rw [List.length_set, List.map_set, show valOf u = .int .i64 x by rw [← hx]]; exact s2
  · rw [List.length_set, List.map_set, show flgOf u = .bool f by rw [← hf]]; exact o2
theorem Tri.cells {gv gf : Nat} (h : Tri w B m ao cap us (some ⟨gv, 0, none⟩) vc (some ⟨gf, 0, none⟩) fc vs) {i : Nat} (hi : i < vs.length) :
    w.cell? ⟨gv, i, none⟩ = some (.int .i64 (vs.getD i 0 / 2)) ∧ w.cell? ⟨gf, i, none⟩ = some (.bool (vs.getD i 0 % 2 == 1)) ∧ w.frozen? ⟨gv, i, none⟩ = false ∧ w.frozen? ⟨gf, i, none⟩ = false := by
  refine ⟨?_, ?_, h.vo.frozenAt i, h.fo.frozenAt i⟩
  · rw [h.vo.cellAt i (by omega), List.getElem?_map, List.getElem?_eq_getElem hi, List.getD_eq_getElem?_getD, List.getElem?_eq_getElem hi]; rfl
  · rw [h.fo.cellAt i (by omega), List.getElem?_map, List.getElem?_eq_getElem hi, List.getD_eq_getElem?_getD, List.getElem?_eq_getElem hi]; rfl
theorem Tri.heads (h : Tri w B m ao cap us va vc fa fc vs) (h0 : 0 < vs.length) : ∃ gv gf, va = some ⟨gv, 0, none⟩ ∧ fa = some ⟨gf, 0, none⟩ := by
  have hv : ∃ g, va = some ⟨g, 0, none⟩ := by
    rcases h.vo.2 with ⟨h1, h2⟩ | ⟨g, c', cur, h1, _⟩
    · omega
    · simp only [Value.slice.injEq] at h1; exact ⟨g, h1.1⟩
  have hf : ∃ g, fa = some ⟨g, 0, none⟩ := by
    rcases h.fo.2 with ⟨h1, h2⟩ | ⟨g, c', cur, h1, _⟩
    · omega
    · simp only [Value.slice.injEq] at h1; exact ⟨g, h1.1⟩
  obtain ⟨g, hg⟩ := hv
  obtain ⟨f, hf⟩ := hf
  exact ⟨g, f, hg, hf⟩
end
theorem bool_info : (Try.prog.info? 4).map (fun i => (i.zero, i.size, i.bytes)) = some (some (.bool false), 1, 1) := by kernel_rfl
theorem int_info : (Try.prog.info? 3).map (fun i => (i.zero, i.size, i.bytes)) = some (some (.int .i64 0), 1, 8) := by kernel_rfl
theorem zzSet_is {w : World} {m cap s : Nat} {ao : Option Addr} {us us' : List Int} (p : Int) {v : Int} (h : MD w m ao cap us) (hs : s ≤ 1073741824) (hv : Hid ((ext us (s + 1)).getD s 0 = v)) (hu : Hid ((ext us (s + 1)).set s (capW p) = us')) :
    Calls Try.prog 14 #[.pointer (some ⟨m, 0, none⟩), .int .i64 (s : Int), .int .i64 p] w fun e w' => e = .returned (.int .u32 v) ∧ ∃ ao' cap', MD w' m ao' cap' us' ∧ Moved w w' m ao ao' := by
  rw [← hv.out, ← hu.out]; exact zzSet_any p h hs
theorem zzAdd_is {w : World} {m cap s : Nat} {ao : Option Addr} {us us' : List Int} (p : Int) (h : MD w m ao cap us) (hs : s ≤ 1073741824) (hu : Hid (((ext us (s + 2)).set s (posW p)).set (s + 1) (posW p) = us')) :
    Calls Try.prog 22 #[.pointer (some ⟨m, 0, none⟩), .int .i64 (s : Int), .int .i64 p] w fun e w' => e = .returned (.tuple #[]) ∧ ∃ ao' cap', MD w' m ao' cap' us' ∧ Moved w w' m ao ao' := by
  rw [← hu.out]; exact zzAdd_any p h hs
theorem capLen_is {w : World} {m cap : Nat} {ao : Option Addr} {us : List Int} {v : Int} (h : MD w m ao cap us) (hv : Hid ((us.length : Int) = v)) :
    Calls Try.prog 10 #[.pointer (some ⟨m, 0, none⟩)] w fun e w' => e = .returned (.int .i64 v) ∧ w = w' := hv.out ▸ capLen_any h

end Go.Proofs.Ytfobgfmejfbanaa
