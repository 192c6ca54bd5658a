/-
  A match of the reference's search under construction, as it lies in memory. Definitions and small laws; conditions as each states.
-/
import Derived.Test.YtcfhhcjcnafcjaaFmtDecEnd
import Derived.Test.YtcfhhcjcnafcjaaFmtMtAll
import Derived.Deep.RegionLaw
import Derived.Deep.AppendLies
namespace Go.Proofs.YtcfhhcjcnafcjaaFmt
open Go.RowKit
set_option linter.unusedVariables false
set_option linter.unusedSimpArgs false

/-- A region of the reference's search. -/
noncomputable def rfRg (n : Nat) : Code := (Tryf.f6.body.bind (findReg n)).getD .skip
/-- A region's end. -/
def RgPost2 (G : Act → World → Prop) : Exit → Act → World → Prop
  | .normal, a, w' => G a w'
  | _, _, _ => False
/-- A match under construction, beside the state of the match. -/
structure XS (w : World) (B xb mb ca ea nc : Nat) (m0 m1 m4 : Value) (st : St) (a1 : Option Addr) (c1 : Nat) (l1 : List Nat) (a2 : Option Addr) (c2 : Nat) (l2 : List Bool) : Prop where
  x : w.heap[xb]? = some (.cells #[.slice a1 l1.length c1, .slice a2 l2.length c2] 39 (0, 0))
  o1 : w.ownsRow B 3 1 (.slice a1 l1.length c1) l1.length (ints l1)
  o2 : w.ownsRow B 4 1 (.slice a2 l2.length c2) l2.length (bools l2)
  m : w.heap[mb]? = some (.cells #[m0, m1, .slice (some ⟨ca, 0, none⟩) (nc + 1) (nc + 1), .slice (some ⟨ea, 0, none⟩) (nc + 1) (nc + 1), m4] 64 (0, 0))
  co : w.ownsRow B 3 1 (.slice (some ⟨ca, 0, none⟩) (nc + 1) (nc + 1)) (nc + 1) (ints st.1)
  eo : w.ownsRow B 3 1 (.slice (some ⟨ea, 0, none⟩) (nc + 1) (nc + 1)) (nc + 1) (ints st.2)
  d1 : blkOf a1 ≠ some ca
  d2 : blkOf a1 ≠ some ea
  hx : B ≤ xb
  Bw : B ≤ w.heap.size
section
variable {w w' : World} {B xb mb ca ea nc : Nat} {m0 m1 m4 : Value} {st : St} {a1 : Option Addr} {c1 : Nat} {l1 : List Nat} {a2 : Option Addr} {c2 : Nat} {l2 : List Bool}
theorem XS.cs (h : XS w B xb mb ca ea nc m0 m1 m4 st a1 c1 l1 a2 c2 l2) {n : Nat} (hn : n < nc + 1) : w.cell? ⟨ca, n, none⟩ = some (.int .i64 ((st.1.getD n 0 : Nat) : Int)) := by
  have hl : (ints st.1).length = nc + 1 := by have := h.co.1; omega
  have hl2 : n < st.1.length := by simp [ints] at hl; omega
  rw [h.co.cellAt n (by omega), ints_get, List.getElem?_eq_getElem hl2, List.getD_eq_getElem?_getD, List.getElem?_eq_getElem hl2]; rfl
theorem XS.es (h : XS w B xb mb ca ea nc m0 m1 m4 st a1 c1 l1 a2 c2 l2) {n : Nat} (hn : n < nc + 1) : w.cell? ⟨ea, n, none⟩ = some (.int .i64 ((st.2.getD n 0 : Nat) : Int)) := by
  have hl : (ints st.2).length = nc + 1 := by have := h.eo.1; omega
  have hl2 : n < st.2.length := by simp [ints] at hl; omega
  rw [h.eo.cellAt n (by omega), ints_get, List.getElem?_eq_getElem hl2, List.getD_eq_getElem?_getD, List.getElem?_eq_getElem hl2]; rfl
theorem XS.below (h : XS w B xb mb ca ea nc m0 m1 m4 st a1 c1 l1 a2 c2 l2) (hb : Below w.heap.size w w') : XS w' B xb mb ca ea nc m0 m1 m4 st a1 c1 l1 a2 c2 l2 where
  x := (hb.block _ (blk_lt h.x)).trans h.x
  o1 := owns_kept h.o1 (fun g o _ ho => (hb.block g (blk_lt ho)).trans ho)
  o2 := owns_kept h.o2 (fun g o _ ho => (hb.block g (blk_lt ho)).trans ho)
  m := (hb.block _ (blk_lt h.m)).trans h.m
  co := owns_kept h.co (fun g o _ ho => (hb.block g (blk_lt ho)).trans ho)
  eo := owns_kept h.eo (fun g o _ ho => (hb.block g (blk_lt ho)).trans ho)
  d1 := h.d1
  d2 := h.d2
  hx := h.hx
  Bw := Nat.le_trans h.Bw hb.size
theorem XS.alloc (h : XS w B xb mb ca ea nc m0 m1 m4 st a1 c1 l1 a2 c2 l2) (o : Obj) : XS (w.alloc o) B xb mb ca ea nc m0 m1 m4 st a1 c1 l1 a2 c2 l2 := h.below ((Below.refl _ _).alloc (Nat.le_refl _) o)
theorem XS.drew (h : XS w B xb mb ca ea nc m0 m1 m4 st a1 c1 l1 a2 c2 l2) : XS w.drew B xb mb ca ea nc m0 m1 m4 st a1 c1 l1 a2 c2 l2 := h.below ⟨rfl, rfl, rfl, Nat.le_refl _, fun _ _ => rfl⟩
theorem XS.xGrown (h : XS w B xb mb ca ea nc m0 m1 m4 st a1 c1 l1 a2 c2 l2) (hg : w.grownBy w' (blkOf a1) ∨ w.grownBy w' (blkOf a2)) : w'.heap[xb]? = some (.cells #[.slice a1 l1.length c1, .slice a2 l2.length c2] 39 (0, 0)) := by
  rcases hg with hg | hg
  · exact blk_grown h.x hg (fun e => by obtain ⟨c, hc⟩ := own_type h.o1 xb e.symm; exact type_ne hc h.x (by decide) rfl)
  · exact blk_grown h.x hg (fun e => by obtain ⟨c, hc⟩ := own_type h.o2 xb e.symm; exact type_ne hc h.x (by decide) rfl)
theorem XS.rowB (h : XS w B xb mb ca ea nc m0 m1 m4 st a1 c1 l1 a2 c2 l2) : ∀ g, blkOf a1 = some g → B ≤ g := fun g hg => (owns_lt h.o1 g hg).1
/-- A push to the places. -/
theorem XS.push1 (h : XS w B xb mb ca ea nc m0 m1 m4 st a1 c1 l1 a2 c2 l2) {g1 k1 n1 : Nat} {l : List Nat} (hn1 : n1 = (l1 ++ l).length) (hown : w'.ownsRow B 3 1 (.slice (some ⟨g1, 0, none⟩) n1 k1) n1 (ints (l1 ++ l))) (hg : w.grownBy w' (blkOf a1)) (hat : blkOf a1 = some g1 ∨ w.heap.size ≤ g1) :
    XS (w'.setCell ⟨xb, 0, none⟩ (.slice (some ⟨g1, 0, none⟩) n1 k1)) B xb mb ca ea nc m0 m1 m4 st (some ⟨g1, 0, none⟩) k1 (l1 ++ l) a2 c2 l2 := by
  subst hn1
  have hx1 := h.xGrown (.inl hg)
  have key : ∀ k o, blkOf a1 ≠ some k → k ≠ xb → w.heap[k]? = some o → (w'.setCell ⟨xb, 0, none⟩ (.slice (some ⟨g1, 0, none⟩) (l1 ++ l).length k1)).heap[k]? = some o := fun k o h1 h2 ho => (Below.heap_setCell _ _ _ _ h2).trans (blk_grown ho hg (Ne.symm h1))
  have hg1x : g1 ≠ xb := by
    obtain ⟨c, hc⟩ := own_type hown g1 rfl
    exact type_ne hc hx1 (by decide)
  have hne : ∀ {g : Nat} {T : TypeId} {c c' : Array Value}, T ≠ 39 → w.heap[g]? = some (.cells c T (0, 0)) → g ≠ xb := fun hT hc => type_ne hc h.x hT
  refine ⟨blk_set hx1 0 _, owns_kept hown (fun g o hgg ho => ?_), owns_kept h.o2 (fun g o hgg ho => ?_), ?_, owns_kept h.co (fun g o hgg ho => ?_), owns_kept h.eo (fun g o hgg ho => ?_), ?_, ?_, h.hx, ?_⟩
  · have : g = g1 := by simpa [blkOf] using hgg.symm
    subst this
    exact (Below.heap_setCell _ _ _ _ hg1x).trans ho
  · obtain ⟨c, hc⟩ := own_type h.o2 g hgg
    refine key g o (fun e => ?_) (type_ne hc h.x (by decide)) ho
    obtain ⟨c', hc'⟩ := own_type h.o1 g e
    exact type_ne hc hc' (by decide) rfl
  · refine key mb _ (fun e => ?_) (type_ne h.m h.x (by decide)) h.m
    obtain ⟨c', hc'⟩ := own_type h.o1 mb e
    exact type_ne h.m hc' (by decide) rfl
  · have : g = ca := by simpa [blkOf] using hgg.symm
    subst this
    obtain ⟨c, hc⟩ := own_type h.co g rfl
    exact key g o h.d1 (type_ne hc h.x (by decide)) ho
  · have : g = ea := by simpa [blkOf] using hgg.symm
    subst this
    obtain ⟨c, hc⟩ := own_type h.eo g rfl
    exact key g o h.d2 (type_ne hc h.x (by decide)) ho
  · have hlt := (owns_lt h.co ca rfl).2
    intro e
    have e' : g1 = ca := by simpa [blkOf] using e
    rcases hat with ha | ha
    · exact h.d1 (by rw [ha, e'])
    · omega
  · have hlt := (owns_lt h.eo ea rfl).2
    intro e
    have e' : g1 = ea := by simpa [blkOf] using e
    rcases hat with ha | ha
    · exact h.d2 (by rw [ha, e'])
    · omega
  · have := hg.size
    have h2 : (w'.setCell ⟨xb, 0, none⟩ (.slice (some ⟨g1, 0, none⟩) (l1 ++ l).length k1)).heap.size = w'.heap.size := World.size_setCell _ _ _
    rw [h2]
    exact Nat.le_trans h.Bw this
theorem one_below_any {a w : World} {g : Option Nat} {B : Nat} (h : a.grownBy w g) (hg : ∀ x, g = some x → B ≤ x) (hs : B ≤ a.heap.size) : Below B a w := by
  cases g with
  | none => exact ⟨h.os, h.tape, h.output, h.size, fun k hk => h.block k (by omega) (fun e => by cases e)⟩
  | some x => exact one_below h (hg x rfl) hs
/-- Behind a region that pushes two places. -/
theorem rf_fin {w8 : World} {g1 k1 n1 x y : Nat} {xs1 : List Value} {v1 v2 : Int} {o : Obj} (h : XS w B xb mb ca ea nc m0 m1 m4 st a1 c1 l1 a2 c2 l2) (hn1 : Hid (l1.length = n1)) (hx1 : Hid (ints l1 = xs1)) (hv1 : Hid ((x : Int) = v1)) (hv2 : Hid ((y : Int) = v2))
    (hown : Hid (w8.ownsRow B 3 1 (.slice (some ⟨g1, 0, none⟩) (n1 + 2) k1) (n1 + 2) (xs1 ++ [.int .i64 v1, .int .i64 v2]))) (hg : Hid ((w.alloc o).drew.grownBy w8 (blkOf a1))) (hat : Hid (blkOf a1 = some g1 ∨ g1 = w.heap.size + 1)) :
    Below B w (w8.setCell ⟨xb, 0, none⟩ (.slice (some ⟨g1, 0, none⟩) (n1 + 2) k1)) ∧ ∃ a1' c1', XS (w8.setCell ⟨xb, 0, none⟩ (.slice (some ⟨g1, 0, none⟩) (n1 + 2) k1)) B xb mb ca ea nc m0 m1 m4 st a1' c1' (l1 ++ [x, y]) a2 c2 l2 := by
  have hown' := hown.out
  have e : ints (l1 ++ [x, y]) = xs1 ++ [.int .i64 v1, .int .i64 v2] := by rw [ints_app, hx1.out, ← hv1.out, ← hv2.out]; rfl
  rw [← e] at hown'
  have hl : n1 + 2 = (l1 ++ [x, y]).length := by rw [List.length_append, hn1.out]; rfl
  refine ⟨?_, _, _, (h.alloc o).drew.push1 hl hown' hg.out (hat.out.imp id (fun h => by rw [h]; simp))⟩
  have hB := h.Bw
  have b1 : Below B w (w.alloc o).drew := ((Below.refl B w).alloc hB o).trans ⟨rfl, rfl, rfl, Nat.le_refl _, fun _ _ => rfl⟩
  exact (b1.trans (one_below_any hg.out h.rowB (by simp; omega))).setCell h.hx _
/-- A push to the flags. -/
theorem XS.push2 (h : XS w B xb mb ca ea nc m0 m1 m4 st a1 c1 l1 a2 c2 l2) {g1 k1 n1 : Nat} {l : List Bool} (hn1 : n1 = (l2 ++ l).length) (hown : w'.ownsRow B 4 1 (.slice (some ⟨g1, 0, none⟩) n1 k1) n1 (bools (l2 ++ l))) (hg : w.grownBy w' (blkOf a2)) :
    XS (w'.setCell ⟨xb, 1, none⟩ (.slice (some ⟨g1, 0, none⟩) n1 k1)) B xb mb ca ea nc m0 m1 m4 st a1 c1 l1 (some ⟨g1, 0, none⟩) k1 (l2 ++ l) := by
  subst hn1
  have hx1 := h.xGrown (.inr hg)
  have hg1x : g1 ≠ xb := by
    obtain ⟨c, hc⟩ := own_type hown g1 rfl
    exact type_ne hc hx1 (by decide)
  have keyT : ∀ {g : Nat} {T : TypeId} {c : Array Value} {o : Obj}, T ≠ 4 → T ≠ 39 → w.heap[g]? = some (.cells c T (0, 0)) → w.heap[g]? = some o → (w'.setCell ⟨xb, 1, none⟩ (.slice (some ⟨g1, 0, none⟩) (l2 ++ l).length k1)).heap[g]? = some o := fun {g T c o} h1 h2 hc ho => by
    refine (Below.heap_setCell _ _ _ _ (type_ne hc h.x h2)).trans (blk_grown ho hg (fun e => ?_))
    obtain ⟨c', hc'⟩ := own_type h.o2 g e.symm
    exact type_ne hc hc' h1 rfl
  refine ⟨blk_set hx1 1 _, owns_kept h.o1 (fun g o hgg ho => ?_), owns_kept hown (fun g o hgg ho => ?_), keyT (by decide) (by decide) h.m h.m, owns_kept h.co (fun g o hgg ho => ?_), owns_kept h.eo (fun g o hgg ho => ?_), h.d1, h.d2, h.hx, ?_⟩
  · obtain ⟨c, hc⟩ := own_type h.o1 g hgg
    exact keyT (by decide) (by decide) hc ho
  · have : g = g1 := by simpa [blkOf] using hgg.symm
    subst this
    exact (Below.heap_setCell _ _ _ _ hg1x).trans ho
  · obtain ⟨c, hc⟩ := own_type h.co g hgg
    exact keyT (by decide) (by decide) hc ho
  · obtain ⟨c, hc⟩ := own_type h.eo g hgg
    exact keyT (by decide) (by decide) hc ho
  · have := hg.size
    have h2 : (w'.setCell ⟨xb, 1, none⟩ (.slice (some ⟨g1, 0, none⟩) (l2 ++ l).length k1)).heap.size = w'.heap.size := World.size_setCell _ _ _
    rw [h2]
    exact Nat.le_trans h.Bw this
end
end Go.Proofs.YtcfhhcjcnafcjaaFmt
