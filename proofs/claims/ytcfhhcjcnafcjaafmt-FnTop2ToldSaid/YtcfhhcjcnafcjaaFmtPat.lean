/-
  A pattern's items as they lie in memory; laws on a pattern under construction: a call that writes the scanner, an append, a shorter row. Conditions as each states.
-/
import Derived.Test.YtcfhhcjcnafcjaaFmtPt
namespace Go.Proofs.YtcfhhcjcnafcjaaFmt
open Go.RowKit
set_option linter.unusedVariables false
set_option linter.unusedSimpArgs false

/-- Items one after the other; none of their blocks is one of X. -/
inductive PtsAt (X : Nat → Prop) (w : World) : List Pt → List Value → Prop
  | nil : PtsAt X w [] []
  | one {c : Cl} {b : Nat} {vc : Value} {ps vs} : ¬ X b → w.heap[b]? = some (.cells #[vc] 100 (0, 0)) → ClAt X w c vc → PtsAt X w ps vs → PtsAt X w (.one c :: ps) (.iface 95 (.pointer (some ⟨b, 0, none⟩)) :: vs)
  | rep {t : Int} {c : Cl} {b : Nat} {vc : Value} {ps vs} : ¬ X b → w.heap[b]? = some (.cells #[.int .i64 t, vc] 111 (0, 0)) → ClAt X w c vc → PtsAt X w ps vs → PtsAt X w (.rep t c :: ps) (.iface 109 (.pointer (some ⟨b, 0, none⟩)) :: vs)
  | pos {b : Nat} {ps vs} : PtsAt X w ps vs → PtsAt X w (.pos :: ps) (.iface 101 (.pointer (some ⟨b, 0, none⟩)) :: vs)
  | cap {l : List Pt} {b q cap : Nat} {must tail : Bool} {ao : Option Addr} {us : List Value} {ps vs} : ¬ X b → w.heap[b]? = some (.cells #[.iface 66 (.pointer (some ⟨q, 0, none⟩))] 107 (0, 0)) →
      ¬ X q → w.heap[q]? = some (.cells #[.bool must, .bool tail, .slice ao l.length cap] 76 (0, 0)) → w.ownsRow 0 105 1 (.slice ao l.length cap) l.length us → (∀ g, blkOf ao = some g → ¬ X g) → PtsAt X w l us →
      PtsAt X w ps vs → PtsAt X w (.cap l :: ps) (.iface 104 (.pointer (some ⟨b, 0, none⟩)) :: vs)
  | num {n : Int} {b : Nat} {ps vs} : ¬ X b → w.heap[b]? = some (.cells #[.int .i64 n] 91 (0, 0)) → PtsAt X w ps vs → PtsAt X w (.num n :: ps) (.iface 89 (.pointer (some ⟨b, 0, none⟩)) :: vs)
  | brace {x y : Int} {b : Nat} {ps vs} : ¬ X b → w.heap[b]? = some (.cells #[.int .i64 x, .int .i64 y] 94 (0, 0)) → PtsAt X w ps vs → PtsAt X w (.brace x y :: ps) (.iface 92 (.pointer (some ⟨b, 0, none⟩)) :: vs)

theorem PtsAt.kept {X Y : Nat → Prop} {w w' : World} {ps : List Pt} {vs : List Value} (h : PtsAt X w ps vs) (hk : ∀ k o, ¬ X k → w.heap[k]? = some o → w'.heap[k]? = some o) (hX : ∀ k, k < w.heap.size → Y k → X k) : PtsAt Y w' ps vs := by
  induction h with
  | nil => exact .nil
  | one h1 h2 h3 _ ih => exact .one (fun hy => h1 (hX _ (blk_lt h2) hy)) (hk _ _ h1 h2) (h3.kept hk hX) ih
  | rep h1 h2 h3 _ ih => exact .rep (fun hy => h1 (hX _ (blk_lt h2) hy)) (hk _ _ h1 h2) (h3.kept hk hX) ih
  | pos _ ih => exact .pos ih
  | cap h1 h2 h3 h4 h5 h6 _ _ ih1 ih2 => exact .cap (fun hy => h1 (hX _ (blk_lt h2) hy)) (hk _ _ h1 h2) (fun hy => h3 (hX _ (blk_lt h4) hy)) (hk _ _ h3 h4) (owns_kept h5 (fun g o hg ho => hk g o (h6 g hg) ho)) (fun g hg hy => h6 g hg (hX g (owns_lt h5 g hg).2 hy)) ih1 ih2
  | num h1 h2 _ ih => exact .num (fun hy => h1 (hX _ (blk_lt h2) hy)) (hk _ _ h1 h2) ih
  | brace h1 h2 _ ih => exact .brace (fun hy => h1 (hX _ (blk_lt h2) hy)) (hk _ _ h1 h2) ih
theorem PtsAt.append {X : Nat → Prop} {w : World} {ps qs : List Pt} {vs us : List Value} (h : PtsAt X w ps vs) (k : PtsAt X w qs us) : PtsAt X w (ps ++ qs) (vs ++ us) := by
  induction h with
  | nil => exact k
  | one h1 h2 h3 _ ih => exact .one h1 h2 h3 ih
  | rep h1 h2 h3 _ ih => exact .rep h1 h2 h3 ih
  | pos _ ih => exact .pos ih
  | cap h1 h2 h3 h4 h5 h6 h7 _ _ ih2 => exact .cap h1 h2 h3 h4 h5 h6 h7 ih2
  | num h1 h2 _ ih => exact .num h1 h2 ih
  | brace h1 h2 _ ih => exact .brace h1 h2 ih
theorem PtsAt.length {X : Nat → Prop} {w : World} {ps : List Pt} {vs : List Value} (h : PtsAt X w ps vs) : vs.length = ps.length := by
  induction h with
  | nil => rfl
  | one _ _ _ _ ih => simp [ih]
  | rep _ _ _ _ ih => simp [ih]
  | pos _ ih => simp [ih]
  | cap _ _ _ _ _ _ _ _ _ ih2 => simp [ih2]
  | num _ _ _ ih => simp [ih]
  | brace _ _ _ ih => simp [ih]
/-- The items split where the list is split. -/
theorem PtsAt.split {X : Nat → Prop} {w : World} : ∀ (ps : List Pt) {qs : List Pt} {vs : List Value}, PtsAt X w (ps ++ qs) vs → ∃ us ts, vs = us ++ ts ∧ PtsAt X w ps us ∧ PtsAt X w qs ts
  | [], qs, vs, h => ⟨[], vs, rfl, .nil, h⟩
  | p :: ps, qs, vs, h => by
    cases h with
    | one h1 h2 h3 h => obtain ⟨us, ts, rfl, a, b⟩ := PtsAt.split ps h; exact ⟨_ :: us, ts, rfl, .one h1 h2 h3 a, b⟩
    | rep h1 h2 h3 h => obtain ⟨us, ts, rfl, a, b⟩ := PtsAt.split ps h; exact ⟨_ :: us, ts, rfl, .rep h1 h2 h3 a, b⟩
    | pos h => obtain ⟨us, ts, rfl, a, b⟩ := PtsAt.split ps h; exact ⟨_ :: us, ts, rfl, .pos a, b⟩
    | cap h1 h2 h3 h4 h5 h6 h7 h => obtain ⟨us, ts, rfl, a, b⟩ := PtsAt.split ps h; exact ⟨_ :: us, ts, rfl, .cap h1 h2 h3 h4 h5 h6 h7 a, b⟩
    | num h1 h2 h => obtain ⟨us, ts, rfl, a, b⟩ := PtsAt.split ps h; exact ⟨_ :: us, ts, rfl, .num h1 h2 a, b⟩
    | brace h1 h2 h => obtain ⟨us, ts, rfl, a, b⟩ := PtsAt.split ps h; exact ⟨_ :: us, ts, rfl, .brace h1 h2 a, b⟩
/-- What the value of an item looks like: a pointer to *singlePattern only where the item is one. -/
theorem PtsAt.last {X : Nat → Prop} {w : World} {p : Pt} {vs : List Value} (h : PtsAt X w [p] vs) : (∃ c b vc, p = .one c ∧ vs = [.iface 95 (.pointer (some ⟨b, 0, none⟩))] ∧ ¬ X b ∧ w.heap[b]? = some (.cells #[vc] 100 (0, 0)) ∧ ClAt X w c vc) ∨
    ((∀ c, p ≠ .one c) ∧ ∃ T b, vs = [.iface T (.pointer (some ⟨b, 0, none⟩))] ∧ (T = 109 ∨ T = 101 ∨ T = 104 ∨ T = 89 ∨ T = 92)) := by
  cases h with
  | one h1 h2 h3 h => cases h; exact .inl ⟨_, _, _, rfl, rfl, h1, h2, h3⟩
  | rep h1 h2 h3 h => cases h; exact .inr ⟨(fun c e => by cases e), _, _, rfl, by simp⟩
  | pos h => cases h; exact .inr ⟨(fun c e => by cases e), _, _, rfl, by simp⟩
  | cap h1 h2 h3 h4 h5 h6 h7 h => cases h; exact .inr ⟨(fun c e => by cases e), _, _, rfl, by simp⟩
  | num h1 h2 h => cases h; exact .inr ⟨(fun c e => by cases e), _, _, rfl, by simp⟩
  | brace h1 h2 h => cases h; exact .inr ⟨(fun c e => by cases e), _, _, rfl, by simp⟩

/-- A pattern under construction at block m; nothing of it lies below B. -/
structure PatO (w : World) (B m : Nat) (must tail : Bool) (ao : Option Addr) (cap : Nat) (acc : List Pt) (vs : List Value) : Prop where
  blk : w.heap[m]? = some (.cells #[.bool must, .bool tail, .slice ao acc.length cap] 76 (0, 0))
  own : w.ownsRow B 105 1 (.slice ao acc.length cap) acc.length vs
  els : PtsAt (fun k => k < B ∨ k = m ∨ blkOf ao = some k) w acc vs
  hm : B ≤ m

section
variable {w w1 : World} {B m b : Nat} {must tail : Bool} {ao : Option Addr} {cap : Nat} {acc : List Pt} {vs : List Value}
theorem PatO.row (h : PatO w B m must tail ao cap acc vs) : ∀ g, blkOf ao = some g → g ≠ m ∧ B ≤ g ∧ g < w.heap.size := by
  intro g hg
  obtain ⟨c, hc⟩ := own_type h.own g hg
  exact ⟨type_ne hc h.blk (by decide), owns_lt h.own g hg⟩
/-- A call that writes the scanner's block alone leaves the pattern. -/
theorem PatO.call (h : PatO w B m must tail ao cap acc vs) (hg : w.grownBy w1 (some b)) (hb : b < B) : PatO w1 B m must tail ao cap acc vs := by
  have keep : ∀ k o, k ≠ b → w.heap[k]? = some o → w1.heap[k]? = some o := fun k o hk ho => blk_grown ho hg (fun e => hk (by injection e))
  have hm := h.hm
  refine ⟨keep m _ (by omega) h.blk, owns_kept h.own (fun g o hgg ho => keep g o (by have := h.row g hgg; omega) ho), h.els.kept (fun k o hX ho => keep k o (fun e => hX (.inl (by omega))) ho) (fun _ _ hX => hX), hm⟩
theorem PatO.drewN (h : PatO w B m must tail ao cap acc vs) (n : Nat) : PatO (w.drewN n) B m must tail ao cap acc vs :=
  ⟨h.blk, h.own, h.els.kept (fun _ _ _ h => h) (fun _ _ h => h), h.hm⟩
theorem PatO.alloc (h : PatO w B m must tail ao cap acc vs) (o : Obj) : PatO (w.alloc o) B m must tail ao cap acc vs :=
  ⟨blk_alloc h.blk o, h.own.alloc o, h.els.kept (fun _ _ _ h => blk_alloc h o) (fun _ _ h => h), h.hm⟩
theorem PatO.push {w2 : World} {p : Pt} {v : Value} {g' cap' : Nat} (h : PatO w B m must tail ao cap acc vs) (he : PtsAt (fun k => k < B ∨ k = m ∨ blkOf ao = some k) w [p] [v])
    (hg : w.grownBy w2 (blkOf ao)) (hown : w2.ownsRow B 105 1 (.slice (some ⟨g', 0, none⟩) (acc.length + 1) cap') (acc.length + 1) (vs ++ [v])) (hat : blkOf ao = some g' ∨ w.heap.size ≤ g') :
    PatO (w2.setCell ⟨m, 2, none⟩ (.slice (some ⟨g', 0, none⟩) (acc.length + 1) cap')) B m must tail (some ⟨g', 0, none⟩) cap' (acc ++ [p]) (vs ++ [v]) := by
  have hlt := blk_lt h.blk
  have keep : ∀ k o, ¬ (k < B ∨ k = m ∨ blkOf ao = some k) → w.heap[k]? = some o → (w2.setCell ⟨m, 2, none⟩ (.slice (some ⟨g', 0, none⟩) (acc.length + 1) cap')).heap[k]? = some o := fun k o hX ho => by
    rw [Below.heap_setCell _ _ _ _ (show k ≠ m from fun e => hX (.inr (.inl e)))]
    exact blk_grown ho hg (fun e => hX (.inr (.inr e.symm)))
  have hX : ∀ k, k < w.heap.size → (k < B ∨ k = m ∨ blkOf (some (⟨g', 0, none⟩ : Addr)) = some k) → (k < B ∨ k = m ∨ blkOf ao = some k) := fun k hk hx => by
    rcases hx with hx | hx | hx
    · exact .inl hx
    · exact .inr (.inl hx)
    · simp only [blkOf, Option.map_some, Option.some.injEq] at hx
      rcases hat with hat | hat
      · exact .inr (.inr (by rw [hat, hx]))
      · omega
  have hmid : w2.heap[m]? = some (.cells #[.bool must, .bool tail, .slice ao acc.length cap] 76 (0, 0)) := blk_grown h.blk hg (fun e => by have := h.row m e.symm; omega)
  have hne : g' ≠ m := by
    obtain ⟨c, hc⟩ := own_type hown g' rfl
    exact type_ne hc hmid (by decide)
  refine ⟨?_, ?_, (h.els.kept keep hX).append (he.kept keep hX), h.hm⟩
  · rw [List.length_append, List.length_singleton]; exact blk_set hmid 2 _
  · rw [List.length_append, List.length_singleton]
    exact ownsRow_setCell_other hown (by rw [ownBlock_slice]; simp only [blkOf, Option.map_some, ne_eq, Option.some.injEq]; exact hne) _
/-- The flags. -/
theorem PatO.setTail (h : PatO w B m must tail ao cap acc vs) (q : Bool) : PatO (w.setCell ⟨m, 1, none⟩ (.bool q)) B m must q ao cap acc vs := by
  refine ⟨blk_set h.blk 1 _, owns_kept h.own (fun g o hg ho => ?_), h.els.kept (fun k o hX ho => ?_) (fun _ _ h => h), h.hm⟩
  · rw [Below.heap_setCell _ _ _ _ (show g ≠ m from (h.row g hg).1)]; exact ho
  · rw [Below.heap_setCell _ _ _ _ (show k ≠ m from fun e => hX (.inr (.inl e)))]; exact ho
theorem PatO.setMust (h : PatO w B m must tail ao cap acc vs) (q : Bool) : PatO (w.setCell ⟨m, 0, none⟩ (.bool q)) B m q tail ao cap acc vs := by
  refine ⟨blk_set h.blk 0 _, owns_kept h.own (fun g o hg ho => ?_), h.els.kept (fun k o hX ho => ?_) (fun _ _ h => h), h.hm⟩
  · rw [Below.heap_setCell _ _ _ _ (show g ≠ m from (h.row g hg).1)]; exact ho
  · rw [Below.heap_setCell _ _ _ _ (show k ≠ m from fun e => hX (.inr (.inl e)))]; exact ho
/-- The last item taken off. -/
theorem PatO.cut {g : Nat} {p : Pt} (h : PatO w B m must tail (some ⟨g, 0, none⟩) cap (acc ++ [p]) vs) : ∃ us v, vs = us ++ [v] ∧ us.length = acc.length ∧ PtsAt (fun k => k < B ∨ k = m ∨ blkOf (some (⟨g, 0, none⟩ : Addr)) = some k) w [p] [v] ∧
    PatO (w.setCell ⟨m, 2, none⟩ (.slice (some ⟨g, 0, none⟩) acc.length cap)) B m must tail (some ⟨g, 0, none⟩) cap acc us := by
  obtain ⟨us, ts, rfl, h1, h2⟩ := PtsAt.split acc h.els
  have hl := h2.length
  obtain ⟨v, rfl⟩ : ∃ v, ts = [v] := by
    match ts, hl with
    | [v], _ => exact ⟨v, rfl⟩
  have hul := h1.length
  have hlen : (acc ++ [p]).length = acc.length + 1 := by simp
  have hb := h.blk
  have ho := h.own
  rw [hlen] at hb ho
  refine ⟨us, v, rfl, hul, h2, blk_set hb 2 _, ?_, h1.kept (fun q o hX ho => ?_) (fun _ _ h => h), h.hm⟩
  · have := owns_take ho (k := acc.length) (by omega)
    rw [show (us ++ [v]).take acc.length = us by rw [← hul]; simp] at this
    exact ownsRow_setCell_other this (by rw [ownBlock_slice]; simp only [blkOf, Option.map_some, ne_eq, Option.some.injEq]; exact (h.row g rfl).1) _
  · rw [Below.heap_setCell _ _ _ _ (show q ≠ m from fun e => hX (.inr (.inl e)))]; exact ho
end

end Go.Proofs.YtcfhhcjcnafcjaaFmt
