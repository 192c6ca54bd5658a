/-
  Items of a pattern, instructions, classes parsed, the parser's definitions and error ways. Conditions as each statement says.
-/
import Derived.Test.YtcfhhcjcnafcjaaFmtClsAll
import Derived.Test.YtcfhhcjcnafcjaaFmtParseSet
import Derived.Test.YtcfhhcjcnafcjaaFmtBase
import Derived.StillTailTactics
namespace Go.Proofs.YtcfhhcjcnafcjaaFmt
open Go.RowKit
set_option linter.unusedVariables false
set_option linter.unusedSimpArgs false


/-- An item of a pattern. -/
inductive Pt where
  | one (c : Cl)
  | rep (t : Int) (c : Cl)
  | pos
  | cap (l : List Pt)
  | num (n : Int)
  | brace (b e : Int)

/-- How the parser ends: items, whether the tail is anchored, the cursor; or an error: its place, which text. -/
inductive PR where
  | ok (l : List Pt) (tail : Bool) (c : Nat)
  | err (p : Int) (m : Nat)

/-- The loop of the parser at the cursor c with the items acc, the tail's flag q. -/
inductive PRun (zs : List Int) : Bool → Nat → List Pt → Bool → PR → Prop
  | fin {top c acc q} : zs.length ≤ c → PRun zs top c acc q (.ok acc q (zs.length + 1))
  | close {c acc q} : chr zs c = 41 → PRun zs false c acc q (.ok acc q c)
  | closeTop {c acc q} : chr zs c = 41 → PRun zs true c acc q (.err (posOf zs.length c) 0)
  | idx {top c acc q} : chr zs c = 37 → chr zs (c + 1) = 48 → PRun zs top c acc q (.err c 1)
  | num {top c acc q r} : chr zs c = 37 → 49 ≤ chr zs (c + 1) → chr zs (c + 1) ≤ 57 → PRun zs top (c + 2) (acc ++ [.num (chr zs (c + 1) - 48)]) q r → PRun zs top c acc q r
  | brace {top c acc q r} : chr zs c = 37 → chr zs (c + 1) = 98 → PRun zs top (min (c + 4) (zs.length + 1)) (acc ++ [.brace (chr zs (c + 2)) (chr zs (c + 3))]) q r → PRun zs top c acc q r
  | esc {top c acc q r} : chr zs c = 37 → ¬ (48 ≤ chr zs (c + 1) ∧ chr zs (c + 1) ≤ 57) → chr zs (c + 1) ≠ 98 → PRun zs top (c + 2) (acc ++ [.one (.el (.sgl (chr zs (c + 1))))]) q r → PRun zs top c acc q r
  | cls {top c acc cl c' q r} : chr zs c = 46 ∨ chr zs c = 91 ∨ chr zs c = 93 → parseCls zs c = some (cl, c') → PRun zs top c' (acc ++ [.one cl]) q r → PRun zs top c acc q r
  | clsErr {top c acc q} : chr zs c = 91 → c + 1 = zs.length → PRun zs top c acc q (.err c 3)
  | posc {top c acc q r} : chr zs c = 40 → chr zs (c + 1) = 41 → PRun zs top (c + 2) (acc ++ [.pos]) q r → PRun zs top c acc q r
  | capt {top c acc l c1 q q1 r} : chr zs c = 40 → chr zs (c + 1) ≠ 41 → PRun zs false (c + 1) [] false (.ok l q1 c1) → chr zs c1 = 41 → PRun zs top (c1 + 1) (acc ++ [.cap l]) q r → PRun zs top c acc q r
  | capOpen {top c acc l c1 q q1} : chr zs c = 40 → chr zs (c + 1) ≠ 41 → PRun zs false (c + 1) [] false (.ok l q1 c1) → chr zs c1 ≠ 41 → PRun zs top c acc q (.err (posOf zs.length c1) 2)
  | capErr {top c acc q p m} : chr zs c = 40 → chr zs (c + 1) ≠ 41 → PRun zs false (c + 1) [] false (.err p m) → PRun zs top c acc q (.err p m)
  | quant {top c acc cl q r} : chr zs c = 42 ∨ chr zs c = 43 ∨ chr zs c = 45 ∨ chr zs c = 63 → PRun zs top (c + 1) (acc ++ [.rep (chr zs c) cl]) q r → PRun zs top c (acc ++ [.one cl]) q r
  | quantLit {top c acc q r} : chr zs c = 42 ∨ chr zs c = 43 ∨ chr zs c = 45 ∨ chr zs c = 63 → (∀ a cl, acc ≠ a ++ [.one cl]) → PRun zs top (c + 1) (acc ++ [.one (.el (.chr (chr zs c)))]) q r → PRun zs top c acc q r
  | tail {c acc q r} : chr zs c = 36 → c + 1 = zs.length → PRun zs true (c + 1) acc true r → PRun zs true c acc q r
  | dollar {top c acc q r} : chr zs c = 36 → ¬ (top = true ∧ c + 1 = zs.length) → PRun zs top (c + 1) (acc ++ [.one (.el (.chr 36))]) q r → PRun zs top c acc q r
  | lit {top c acc q r} : c < zs.length → (∀ z, z ∈ ([37, 46, 91, 93, 41, 40, 42, 43, 45, 63, 36] : List Int) → chr zs c ≠ z) → PRun zs top (c + 1) (acc ++ [.one (.el (.chr (chr zs c)))]) q r → PRun zs top c acc q r



/-- An instruction. -/
inductive Ins where
  | chr (c : Cl)
  | mat
  | tmat
  | jmp (a : Nat)
  | split (a b : Nat)
  | save (n : Nat)
  | psave (n : Nat)
  | brace (b e : Int)
  | num (n : Int)

/-- The compiler over items: the instructions so far, the next capture's slot. -/
inductive CRun : List Pt → List Ins → Nat → List Ins → Nat → Prop
  | nil {I k} : CRun [] I k I k
  | one {c ps I k I' k'} : CRun ps (I ++ [.chr c]) k I' k' → CRun (.one c :: ps) I k I' k'
  | star {c ps I k I' k'} : CRun ps (I ++ [.split (I.length + 1) (I.length + 3), .chr c, .jmp I.length]) k I' k' → CRun (.rep 42 c :: ps) I k I' k'
  | plus {c ps I k I' k'} : CRun ps (I ++ [.chr c, .split I.length (I.length + 2)]) k I' k' → CRun (.rep 43 c :: ps) I k I' k'
  | minus {c ps I k I' k'} : CRun ps (I ++ [.split (I.length + 3) (I.length + 1), .chr c, .jmp I.length]) k I' k' → CRun (.rep 45 c :: ps) I k I' k'
  | opt {c ps I k I' k'} : CRun ps (I ++ [.split (I.length + 1) (I.length + 2), .chr c]) k I' k' → CRun (.rep 63 c :: ps) I k I' k'
  | pos {ps I k I' k'} : CRun ps (I ++ [.psave k]) (k + 2) I' k' → CRun (.pos :: ps) I k I' k'
  | cap {l ps I k I1 k1 I' k'} : CRun l (I ++ [.save k]) (k + 2) I1 k1 → CRun ps (I1 ++ [.save (k + 1)]) k1 I' k' → CRun (.cap l :: ps) I k I' k'
  | num {n ps I k I' k'} : CRun ps (I ++ [.num n]) k I' k' → CRun (.num n :: ps) I k I' k'
  | brace {b e ps I k I' k'} : CRun ps (I ++ [.brace b e]) k I' k' → CRun (.brace b e :: ps) I k I' k'



/-- Items one after the other; none of their blocks is one of X. -/
inductive PtsAt (X : Nat → Prop) (w : World) : List Pt → List Value → Prop
  | nil : PtsAt X w [] []
  | one {c : Cl} {b : Nat} {vc : Value} {ps vs} : ¬ X b → w.heap[b]? = some (.cells #[vc] 100 (0, 0)) → ClAt X w c vc → PtsAt X w ps vs → PtsAt X w (.one c :: ps) (.iface 95 (.pointer (some ⟨b, 0, none⟩)) :: vs)
  | rep {t : Int} {c : Cl} {b : Nat} {vc : Value} {ps vs} : ¬ X b → w.heap[b]? = some (.cells #[.int .i64 t, vc] 111 (0, 0)) → ClAt X w c vc → PtsAt X w ps vs → PtsAt X w (.rep t c :: ps) (.iface 109 (.pointer (some ⟨b, 0, none⟩)) :: vs)
  | pos {b : Nat} {ps vs} : PtsAt X w ps vs → PtsAt X w (.pos :: ps) (.iface 101 (.pointer (some ⟨b, 0, none⟩)) :: vs)
  | cap {l : List Pt} {b q cap : Nat} {must tail : Bool} {ao : Option Addr} {us : List Value} {ps vs} : ¬ X b → w.heap[b]? = some (.cells #[.iface 66 (.pointer (some ⟨q, 0, none⟩))] 107 (0, 0)) →
      ¬ X q → w.heap[q]? = some (.cells #[.bool must, .bool tail, .slice ao l.length cap] 76 (0, 0)) → w.ownsRow 0 105 1 (.slice ao l.length cap) l.length us → (∀ g, blkOf ao = some g → ¬ X g) → PtsAt X w l us →
      PtsAt X w ps vs → PtsAt X w (.cap l :: ps) (.iface 104 (.pointer (some ⟨b, 0, none⟩)) :: vs)
  | num {n : Int} {b : Nat} {ps vs} : ¬ X b → w.heap[b]? = some (.cells #[.int .i64 n] 91 (0, 0)) → PtsAt X w ps vs → PtsAt X w (.num n :: ps) (.iface 89 (.pointer (some ⟨b, 0, none⟩)) :: vs)
  | brace {x y : Int} {b : Nat} {ps vs} : ¬ X b → w.heap[b]? = some (.cells #[.int .i64 x, .int .i64 y] 94 (0, 0)) → PtsAt X w ps vs → PtsAt X w (.brace x y :: ps) (.iface 92 (.pointer (some ⟨b, 0, none⟩)) :: vs)

theorem PtsAt.kept {X Y : Nat → Prop} {w w' : World} {ps : List Pt} {vs : List Value} (h : PtsAt X w ps vs) (hk : ∀ k o, ¬ X k → w.heap[k]? = some o → w'.heap[k]? = some o) (hX : ∀ k, k < w.heap.size → Y k → X k) : PtsAt Y w' ps vs := by
  induction h with
  | nil => exact .nil
  | one h1 h2 h3 _ ih => exact .one (fun hy => h1 (hX _ (blk_lt h2) hy)) (hk _ _ h1 h2) (h3.kept hk hX) ih
  | rep h1 h2 h3 _ ih => exact .rep (fun hy => h1 (hX _ (blk_lt h2) hy)) (hk _ _ h1 h2) (h3.kept hk hX) ih
  | pos _ ih => exact .pos ih
  | cap h1 h2 h3 h4 h5 h6 _ _ ih1 ih2 => exact .cap (fun hy => h1 (hX _ (blk_lt h2) hy)) (hk _ _ h1 h2) (fun hy => h3 (hX _ (blk_lt h4) hy)) (hk _ _ h3 h4) (owns_kept h5 (fun g o hg ho => hk g o (h6 g hg) ho)) (fun g hg hy => h6 g hg (hX g (owns_lt h5 g hg).2 hy)) ih1 ih2
  | num h1 h2 _ ih => exact .num (fun hy => h1 (hX _ (blk_lt h2) hy)) (hk _ _ h1 h2) ih
  | brace h1 h2 _ ih => exact .brace (fun hy => h1 (hX _ (blk_lt h2) hy)) (hk _ _ h1 h2) ih
theorem PtsAt.append {X : Nat → Prop} {w : World} {ps qs : List Pt} {vs us : List Value} (h : PtsAt X w ps vs) (k : PtsAt X w qs us) : PtsAt X w (ps ++ qs) (vs ++ us) := by
  induction h with
  | nil => exact k
  | one h1 h2 h3 _ ih => exact .one h1 h2 h3 ih
  | rep h1 h2 h3 _ ih => exact .rep h1 h2 h3 ih
  | pos _ ih => exact .pos ih
  | cap h1 h2 h3 h4 h5 h6 h7 _ _ ih2 => exact .cap h1 h2 h3 h4 h5 h6 h7 ih2
  | num h1 h2 _ ih => exact .num h1 h2 ih
  | brace h1 h2 _ ih => exact .brace h1 h2 ih
theorem PtsAt.length {X : Nat → Prop} {w : World} {ps : List Pt} {vs : List Value} (h : PtsAt X w ps vs) : vs.length = ps.length := by
  induction h with
  | nil => rfl
  | one _ _ _ _ ih => simp [ih]
  | rep _ _ _ _ ih => simp [ih]
  | pos _ ih => simp [ih]
  | cap _ _ _ _ _ _ _ _ _ ih2 => simp [ih2]
  | num _ _ _ ih => simp [ih]
  | brace _ _ _ ih => simp [ih]
/-- The items split where the list is split. -/
theorem PtsAt.split {X : Nat → Prop} {w : World} : ∀ (ps : List Pt) {qs : List Pt} {vs : List Value}, PtsAt X w (ps ++ qs) vs → ∃ us ts, vs = us ++ ts ∧ PtsAt X w ps us ∧ PtsAt X w qs ts
  | [], qs, vs, h => ⟨[], vs, rfl, .nil, h⟩
  | p :: ps, qs, vs, h => by
    cases h with
    | one h1 h2 h3 h => obtain ⟨us, ts, rfl, a, b⟩ := PtsAt.split ps h; exact ⟨_ :: us, ts, rfl, .one h1 h2 h3 a, b⟩
    | rep h1 h2 h3 h => obtain ⟨us, ts, rfl, a, b⟩ := PtsAt.split ps h; exact ⟨_ :: us, ts, rfl, .rep h1 h2 h3 a, b⟩
    | pos h => obtain ⟨us, ts, rfl, a, b⟩ := PtsAt.split ps h; exact ⟨_ :: us, ts, rfl, .pos a, b⟩
    | cap h1 h2 h3 h4 h5 h6 h7 h => obtain ⟨us, ts, rfl, a, b⟩ := PtsAt.split ps h; exact ⟨_ :: us, ts, rfl, .cap h1 h2 h3 h4 h5 h6 h7 a, b⟩
    | num h1 h2 h => obtain ⟨us, ts, rfl, a, b⟩ := PtsAt.split ps h; exact ⟨_ :: us, ts, rfl, .num h1 h2 a, b⟩
    | brace h1 h2 h => obtain ⟨us, ts, rfl, a, b⟩ := PtsAt.split ps h; exact ⟨_ :: us, ts, rfl, .brace h1 h2 a, b⟩
/-- What the value of an item looks like: a pointer to *singlePattern only where the item is one. -/
theorem PtsAt.last {X : Nat → Prop} {w : World} {p : Pt} {vs : List Value} (h : PtsAt X w [p] vs) : (∃ c b vc, p = .one c ∧ vs = [.iface 95 (.pointer (some ⟨b, 0, none⟩))] ∧ ¬ X b ∧ w.heap[b]? = some (.cells #[vc] 100 (0, 0)) ∧ ClAt X w c vc) ∨
    ((∀ c, p ≠ .one c) ∧ ∃ T b, vs = [.iface T (.pointer (some ⟨b, 0, none⟩))] ∧ (T = 109 ∨ T = 101 ∨ T = 104 ∨ T = 89 ∨ T = 92)) := by
  cases h with
  | one h1 h2 h3 h => cases h; exact .inl ⟨_, _, _, rfl, rfl, h1, h2, h3⟩
  | rep h1 h2 h3 h => cases h; exact .inr ⟨(fun c e => by cases e), _, _, rfl, by simp⟩
  | pos h => cases h; exact .inr ⟨(fun c e => by cases e), _, _, rfl, by simp⟩
  | cap h1 h2 h3 h4 h5 h6 h7 h => cases h; exact .inr ⟨(fun c e => by cases e), _, _, rfl, by simp⟩
  | num h1 h2 h => cases h; exact .inr ⟨(fun c e => by cases e), _, _, rfl, by simp⟩
  | brace h1 h2 h => cases h; exact .inr ⟨(fun c e => by cases e), _, _, rfl, by simp⟩

/-- A pattern under construction at block m; nothing of it lies below B. -/
structure PatO (w : World) (B m : Nat) (must tail : Bool) (ao : Option Addr) (cap : Nat) (acc : List Pt) (vs : List Value) : Prop where
  blk : w.heap[m]? = some (.cells #[.bool must, .bool tail, .slice ao acc.length cap] 76 (0, 0))
  own : w.ownsRow B 105 1 (.slice ao acc.length cap) acc.length vs
  els : PtsAt (fun k => k < B ∨ k = m ∨ blkOf ao = some k) w acc vs
  hm : B ≤ m

section
variable {w w1 : World} {B m b : Nat} {must tail : Bool} {ao : Option Addr} {cap : Nat} {acc : List Pt} {vs : List Value}
theorem PatO.row (h : PatO w B m must tail ao cap acc vs) : ∀ g, blkOf ao = some g → g ≠ m ∧ B ≤ g ∧ g < w.heap.size := by
  intro g hg
  obtain ⟨c, hc⟩ := own_type h.own g hg
  exact ⟨type_ne hc h.blk (by decide), owns_lt h.own g hg⟩
/-- A call that writes the scanner's block alone leaves the pattern. -/
theorem PatO.call (h : PatO w B m must tail ao cap acc vs) (hg : w.grownBy w1 (some b)) (hb : b < B) : PatO w1 B m must tail ao cap acc vs := by
  have keep : ∀ k o, k ≠ b → w.heap[k]? = some o → w1.heap[k]? = some o := fun k o hk ho => blk_grown ho hg (fun e => hk (by injection e))
  have hm := h.hm
  refine ⟨keep m _ (by omega) h.blk, owns_kept h.own (fun g o hgg ho => keep g o (by have := h.row g hgg; omega) ho), h.els.kept (fun k o hX ho => keep k o (fun e => hX (.inl (by omega))) ho) (fun _ _ hX => hX), hm⟩
theorem PatO.drewN (h : PatO w B m must tail ao cap acc vs) (n : Nat) : PatO (w.drewN n) B m must tail ao cap acc vs :=
  ⟨h.blk, h.own, h.els.kept (fun _ _ _ h => h) (fun _ _ h => h), h.hm⟩
theorem PatO.alloc (h : PatO w B m must tail ao cap acc vs) (o : Obj) : PatO (w.alloc o) B m must tail ao cap acc vs :=
  ⟨blk_alloc h.blk o, h.own.alloc o, h.els.kept (fun _ _ _ h => blk_alloc h o) (fun _ _ h => h), h.hm⟩
theorem PatO.push {w2 : World} {p : Pt} {v : Value} {g' cap' : Nat} (h : PatO w B m must tail ao cap acc vs) (he : PtsAt (fun k => k < B ∨ k = m ∨ blkOf ao = some k) w [p] [v])
    (hg : w.grownBy w2 (blkOf ao)) (hown : w2.ownsRow B 105 1 (.slice (some ⟨g', 0, none⟩) (acc.length + 1) cap') (acc.length + 1) (vs ++ [v])) (hat : blkOf ao = some g' ∨ w.heap.size ≤ g') :
    PatO (w2.setCell ⟨m, 2, none⟩ (.slice (some ⟨g', 0, none⟩) (acc.length + 1) cap')) B m must tail (some ⟨g', 0, none⟩) cap' (acc ++ [p]) (vs ++ [v]) := by
  have hlt := blk_lt h.blk
  have keep : ∀ k o, ¬ (k < B ∨ k = m ∨ blkOf ao = some k) → w.heap[k]? = some o → (w2.setCell ⟨m, 2, none⟩ (.slice (some ⟨g', 0, none⟩) (acc.length + 1) cap')).heap[k]? = some o := fun k o hX ho => by
    rw [Below.heap_setCell _ _ _ _ (show k ≠ m from fun e => hX (.inr (.inl e)))]
    exact blk_grown ho hg (fun e => hX (.inr (.inr e.symm)))
  have hX : ∀ k, k < w.heap.size → (k < B ∨ k = m ∨ blkOf (some (⟨g', 0, none⟩ : Addr)) = some k) → (k < B ∨ k = m ∨ blkOf ao = some k) := fun k hk hx => by
    rcases hx with hx | hx | hx
    · exact .inl hx
    · exact .inr (.inl hx)
    · simp only [blkOf, Option.map_some, Option.some.injEq] at hx
      rcases hat with hat | hat
      · exact .inr (.inr (by rw [hat, hx]))
      · omega
  have hmid : w2.heap[m]? = some (.cells #[.bool must, .bool tail, .slice ao acc.length cap] 76 (0, 0)) := blk_grown h.blk hg (fun e => by have := h.row m e.symm; omega)
  have hne : g' ≠ m := by
    obtain ⟨c, hc⟩ := own_type hown g' rfl
    exact type_ne hc hmid (by decide)
  refine ⟨?_, ?_, (h.els.kept keep hX).append (he.kept keep hX), h.hm⟩
  · rw [List.length_append, List.length_singleton]; exact blk_set hmid 2 _
  · rw [List.length_append, List.length_singleton]
    exact ownsRow_setCell_other hown (by rw [ownBlock_slice]; simp only [blkOf, Option.map_some, ne_eq, Option.some.injEq]; exact hne) _
/-- The flags. -/
theorem PatO.setTail (h : PatO w B m must tail ao cap acc vs) (q : Bool) : PatO (w.setCell ⟨m, 1, none⟩ (.bool q)) B m must q ao cap acc vs := by
  refine ⟨blk_set h.blk 1 _, owns_kept h.own (fun g o hg ho => ?_), h.els.kept (fun k o hX ho => ?_) (fun _ _ h => h), h.hm⟩
  · rw [Below.heap_setCell _ _ _ _ (show g ≠ m from (h.row g hg).1)]; exact ho
  · rw [Below.heap_setCell _ _ _ _ (show k ≠ m from fun e => hX (.inr (.inl e)))]; exact ho
theorem PatO.setMust (h : PatO w B m must tail ao cap acc vs) (q : Bool) : PatO (w.setCell ⟨m, 0, none⟩ (.bool q)) B m q tail ao cap acc vs := by
  refine ⟨blk_set h.blk 0 _, owns_kept h.own (fun g o hg ho => ?_), h.els.kept (fun k o hX ho => ?_) (fun _ _ h => h), h.hm⟩
  · rw [Below.heap_setCell _ _ _ _ (show g ≠ m from (h.row g hg).1)]; exact ho
  · rw [Below.heap_setCell _ _ _ _ (show k ≠ m from fun e => hX (.inr (.inl e)))]; exact ho
/-- The last item taken off. -/
theorem PatO.cut {g : Nat} {p : Pt} (h : PatO w B m must tail (some ⟨g, 0, none⟩) cap (acc ++ [p]) vs) : ∃ us v, vs = us ++ [v] ∧ us.length = acc.length ∧ PtsAt (fun k => k < B ∨ k = m ∨ blkOf (some (⟨g, 0, none⟩ : Addr)) = some k) w [p] [v] ∧
    PatO (w.setCell ⟨m, 2, none⟩ (.slice (some ⟨g, 0, none⟩) acc.length cap)) B m must tail (some ⟨g, 0, none⟩) cap acc us := by
  obtain ⟨us, ts, rfl, h1, h2⟩ := PtsAt.split acc h.els
  have hl := h2.length
  obtain ⟨v, rfl⟩ : ∃ v, ts = [v] := by
    match ts, hl with
    | [v], _ => exact ⟨v, rfl⟩
  have hul := h1.length
  have hlen : (acc ++ [p]).length = acc.length + 1 := by simp
  have hb := h.blk
  have ho := h.own
  rw [hlen] at hb ho
  refine ⟨us, v, rfl, hul, h2, blk_set hb 2 _, ?_, h1.kept (fun q o hX ho => ?_) (fun _ _ h => h), h.hm⟩
  · have := owns_take ho (k := acc.length) (by omega)
    rw [show (us ++ [v]).take acc.length = us by rw [← hul]; simp] at this
    exact ownsRow_setCell_other this (by rw [ownBlock_slice]; simp only [blkOf, Option.map_some, ne_eq, Option.some.injEq]; exact (h.row g rfl).1) _
  · rw [Below.heap_setCell _ _ _ _ (show q ≠ m from fun e => hX (.inr (.inl e)))]; exact ho
end



section
variable {w : World} {b : Nat} {ao : Option Addr} {cap : Nat} {zs : List Int} {c s : Nat}

theorem clPost_chr {w w1 : World} (z : Int) {c' : Nat} (hs : Scan w1 b ao cap zs c' s) (hg : w.grownBy w1 (some b)) :
    ClPost w b ao cap zs s (.el (.chr z), c') (.returned (.iface 112 (.pointer (some ⟨w1.heap.size, 0, none⟩)))) (w1.alloc (.cells #[.int .i64 z] 114)) :=
  ⟨_, _, rfl, ⟨w1.heap.size, rfl, by have := hg.size; omega, blk_new _ _⟩, hs.grownAlloc _, one_alloc hg _⟩
theorem clPost_sgl {w w1 : World} (z : Int) {c' : Nat} (hs : Scan w1 b ao cap zs c' s) (hg : w.grownBy w1 (some b)) :
    ClPost w b ao cap zs s (.el (.sgl z), c') (.returned (.iface 132 (.pointer (some ⟨w1.heap.size, 0, none⟩)))) (w1.alloc (.cells #[.int .i64 z] 134)) :=
  ⟨_, _, rfl, ⟨w1.heap.size, rfl, by have := hg.size; omega, blk_new _ _⟩, hs.grownAlloc _, one_alloc hg _⟩
theorem clPost_dot {w w1 : World} {c' : Nat} (hs : Scan w1 b ao cap zs c' s) (hg : w.grownBy w1 (some b)) (o : Obj) (x : Nat) :
    ClPost w b ao cap zs s (.dot, c') (.returned (.iface 135 (.pointer (some ⟨x, 0, none⟩)))) (w1.alloc o) :=
  ⟨_, _, rfl, ⟨x, rfl⟩, hs.grownAlloc _, one_alloc hg _⟩

set_option maxHeartbeats 1000000 in
theorem parseCls_any (h : Scan w b ao cap zs c s) (hl : zs.length ≤ 4194304) {R : Cl × Nat} (hR : parseCls zs c = some R) :
    Calls Tryf.prog 30 #[.pointer (some ⟨b, 0, none⟩), .bool true] w (ClPost w b ao cap zs s R) := by
  have hc : c < zs.length := by
    rcases Nat.lt_or_ge c zs.length with h1 | h1
    · exact h1
    · unfold parseCls at hR; rw [if_pos h1] at hR; cases hR
  have hzb := chr_mem h.byte hc
  have HN := Lib.hid (next_at h (by omega) rfl)
  unfold parseCls at hR
  rw [if_neg (by omega)] at hR
  obtain ⟨z, hz⟩ : ∃ z, chr zs c = z := ⟨_, rfl⟩
  rw [hz] at HN hzb hR
  have hz0 := hzb.1
  clear hz
  rcases (show z = 37 ∨ z = 46 ∨ z = 91 ∨ ((z == 37) = false ∧ (z == 46) = false ∧ (z == 91) = false ∧ (z == -1) = false) by simp; omega) with rfl | rfl | rfl | ⟨n1, n2, n3, n4⟩
  · obtain rfl : (Cl.el (.sgl (chr zs (c + 1))), c + 2) = R := by simpa using hR
    clear hR hzb h
    go_enter Tryf.func30, Tryf.ntmps30
    go_wp2_with fail
    refine HN.out.mono ?_
    rintro e w1 ⟨rfl, hs1, hg1⟩
    have HS := Lib.hid hs1
    have HG := Lib.hid hg1
    clear hs1 hg1
    go_wp2_with fail
    refine (next_at HS.out (by omega) rfl).mono ?_
    rintro e w2 ⟨rfl, hs2, hg2⟩
    have HS2 := Lib.hid hs2
    have HG2 := Lib.hid (one_trans HG.out hg2)
    clear hs2 hg2
    go_wp2_with fail
    go_ret
    exact clPost_sgl _ HS2.out HG2.out
  · obtain rfl : (Cl.dot, c + 1) = R := by simpa using hR
    clear hR hzb h
    go_enter Tryf.func30, Tryf.ntmps30
    go_wp2_with fail
    refine HN.out.mono ?_
    rintro e w1 ⟨rfl, hs1, hg1⟩
    have HS := Lib.hid hs1
    have HG := Lib.hid hg1
    clear hs1 hg1
    go_wp2_with fail
    go_ret
    exact clPost_dot HS.out HG.out _ _
  · have hR' : parseSet zs (c + 1) = some R := by simpa using hR
    have HR := Lib.hid hR'
    clear hR hR' hzb h
    go_enter Tryf.func30, Tryf.ntmps30
    go_wp2_with fail
    refine HN.out.mono ?_
    rintro e w1 ⟨rfl, hs1, hg1⟩
    have HS := Lib.hid hs1
    have HG := Lib.hid hg1
    clear hs1 hg1
    go_wp2_with fail
    refine (parseSet_any HS.out (by omega) hl HR.out).mono ?_
    rintro e w2 ⟨T, a, rfl, hcl, hs2, hg2⟩
    have HC := Lib.hid hcl
    have HS2 := Lib.hid hs2
    have HG2 := Lib.hid (one_trans HG.out hg2)
    have HZ := Lib.hid HG.out.size
    clear hcl hs2 hg2
    go_wp2_with fail
    go_ret
    exact ⟨_, _, rfl, HC.out.kept (fun _ _ _ h => h) (fun k _ hk => Nat.lt_of_lt_of_le hk HZ.out), HS2.out, HG2.out⟩
  · obtain rfl : (Cl.el (.chr z), c + 1) = R := by
      rw [if_neg (by simp at n1; omega), if_neg (by simp at n2; omega), if_neg (by simp at n3; omega)] at hR
      simpa using hR
    clear hR hzb h
    go_enter Tryf.func30, Tryf.ntmps30
    go_wp2_with fail
    refine HN.out.mono ?_
    rintro e w1 ⟨rfl, hs1, hg1⟩
    have HS := Lib.hid hs1
    have HG := Lib.hid hg1
    clear hs1 hg1
    go_wp2_with fail
    go_ret
    exact clPost_chr _ HS.out HG.out
end



theorem pattern_info : (Tryf.prog.info? 105).map (fun i => (i.zero, i.size, i.bytes)) = some (some .nilIface, 1, 16) := by kernel_rfl
theorem news_at2 {W : World} {v : Value} {T : TypeId} {n : Nat} (h : W.heap.size = n) : ∀ (j : Nat) (u : Value), [v][j]? = some u → (W.alloc (.cells #[v] T)).cell? ((⟨n, 0, none⟩ : Addr).add j) = some u := by
  subst h
  exact fun j u hj => cell_one_new W v T j u hj
theorem chr_lt {zs : List Int} {c : Nat} (h : chr zs c ≠ -1) : c < zs.length := by
  rcases Nat.lt_or_ge c zs.length with h1 | h1
  · exact h1
  · exact absurd (by unfold chr; rw [if_neg (by omega)]) h
section
variable {w : World} {b : Nat} {sao : Option Addr} {scap : Nat} {zs : List Int} {c s : Nat}
/-- What stands behind 'pat.Patterns = append(pat.Patterns, ..)'. -/
def AfterIt (w : World) (B b : Nat) (sao : Option Addr) (scap : Nat) (zs : List Int) (s m : Nat) (must tail : Bool) (acc : List Pt) (vs : List Value) (p : Pt) (c : Nat) (wc : World) : Prop :=
  ∃ g cap v, PatO wc B m must tail (some ⟨g, 0, none⟩) cap (acc ++ [p]) (vs ++ [v]) ∧ Scan wc b sao scap zs c s ∧ w.grownBy wc (some b)
theorem afterIt_mk {w wa w3 : World} {B b m : Nat} {sao : Option Addr} {scap : Nat} {zs : List Int} {c s : Nat} {must tail : Bool} {ao : Option Addr} {cap : Nat} {acc : List Pt} {vs : List Value} {p : Pt} {v : Value} {g1 c1 : Nat}
    (hB : w.heap.size = B) (hb : b < B) (hsrc : ∀ sb so, sao = some ⟨sb, so, none⟩ → sb < B) (h : PatO wa B m must tail ao cap acc vs) (hit : PtsAt (fun k => k < B ∨ k = m ∨ blkOf ao = some k) wa [p] [v])
    (hsc : Scan wa b sao scap zs c s) (hg : w.grownBy wa (some b)) (hgrow : wa.grownBy w3 (blkOf ao))
    (hown : w3.ownsRow B 105 1 (.slice (some ⟨g1, 0, none⟩) (acc.length + 1) c1) (acc.length + 1) (vs ++ [v])) (hat : blkOf ao = some g1 ∨ wa.heap.size ≤ g1) :
    AfterIt w B b sao scap zs s m must tail acc vs p c (w3.setCell ⟨m, 2, none⟩ (.slice (some ⟨g1, 0, none⟩) (acc.length + 1) c1)) :=
  ⟨g1, c1, v, h.push hit hgrow hown hat, (hsc.push (B := B) hgrow (fun x hx => (h.row x hx).2.1) hb hsrc).setFar (B := B) h.hm hb hsrc,
    one_setCell (one_push hg hgrow (fun x hx => by have := (h.row x hx).2.1; omega)) (.inr (by have := h.hm; simp; omega)) _⟩
theorem afterIt_mk' {w wa w3 : World} {B b m : Nat} {sao : Option Addr} {scap : Nat} {zs : List Int} {c s : Nat} {must tail : Bool} {ao : Option Addr} {cap : Nat} {acc : List Pt} {vs : List Value} {p : Pt} {v : Value} {g1 c1 H : Nat}
    (hB : w.heap.size = B) (hb : b < B) (hsrc : ∀ sb so, sao = some ⟨sb, so, none⟩ → sb < B) (h : PatO wa B m must tail ao cap acc vs) (hit : PtsAt (fun k => k < B ∨ k = m ∨ blkOf ao = some k) wa [p] [v])
    (hsc : Scan wa b sao scap zs c s) (hg : w.grownBy wa (some b)) (hgrow : wa.grownBy w3 (Value.slice ao acc.length cap).ownBlock)
    (hown : w3.ownsRow B 105 1 (.slice (some ⟨g1, 0, none⟩) (acc.length + 1) c1) (acc.length + 1) (vs ++ [v])) (hat : (Value.slice ao acc.length cap).ownBlock = some g1 ∨ g1 = H) (hH : wa.heap.size ≤ H := by simp) :
    AfterIt w B b sao scap zs s m must tail acc vs p c (w3.setCell ⟨m, 2, none⟩ (.slice (some ⟨g1, 0, none⟩) (acc.length + 1) c1)) := by
  rw [ownBlock_slice] at hgrow hat
  exact afterIt_mk hB hb hsrc h hit hsc hg hgrow hown (hat.imp id (fun e => by omega))
theorem xlt {W : World} {B m : Nat} {must tail : Bool} {ao : Option Addr} {cap : Nat} {acc : List Pt} {vs : List Value} (h : PatO W B m must tail ao cap acc vs) : ∀ k, (k < B ∨ k = m ∨ blkOf ao = some k) → k < W.heap.size := by
  have hm := blk_lt h.blk
  have := h.hm
  rintro k (hk | hk | hk)
  · omega
  · omega
  · exact (h.row k hk).2.2
theorem xle {W : World} {B m : Nat} {must tail : Bool} {ao : Option Addr} {cap : Nat} {acc : List Pt} {vs : List Value} (h : PatO W B m must tail ao cap acc vs) {n : Nat} (hn : W.heap.size ≤ n) : ∀ k, (k < B ∨ k = m ∨ blkOf ao = some k) → k < W.heap.size ∧ k < n :=
  fun k hk => by have := xlt h k hk; omega
theorem it_chr (W : World) (z : Int) {X : Nat → Prop} (hX : ∀ k, X k → k < W.heap.size) (o : Obj) :
    PtsAt X (((W.alloc (.cells #[.int .i64 z] 114)).alloc (.cells #[.iface 112 (.pointer (some ⟨W.heap.size, 0, none⟩))] 100)).alloc o) [.one (.el (.chr z))] [.iface 95 (.pointer (some ⟨W.heap.size + 1, 0, none⟩))] := by
  have s1 : (W.alloc (.cells #[.int .i64 z] 114)).heap.size = W.heap.size + 1 := by simp
  have b2 := blk_new (W.alloc (.cells #[.int .i64 z] 114)) (.cells #[.iface 112 (.pointer (some ⟨W.heap.size, 0, none⟩))] 100)
  rw [s1] at b2
  exact .one (fun h => by have := hX _ h; omega) (blk_alloc b2 _) ⟨W.heap.size, rfl, fun h => by have := hX _ h; omega, blk_alloc (blk_alloc (blk_new _ _) _) _⟩ .nil
/-- An item of one class that a call has laid. -/
theorem it_one (W : World) {X : Nat → Prop} {n : Nat} {cl : Cl} {v : Value} (hX : ∀ k, X k → k < n ∧ k < W.heap.size) (h : ClAt (fun k => k < n) W cl v) (o : Obj) :
    PtsAt X ((W.alloc (.cells #[v] 100)).alloc o) [.one cl] [.iface 95 (.pointer (some ⟨W.heap.size, 0, none⟩))] :=
  .one (fun h => by have := hX _ h; omega) (blk_alloc (blk_new _ _) _) (h.kept (fun k o' _ ho => blk_alloc (blk_alloc ho _) _) (fun k _ hk => (hX k hk).1)) .nil

theorem it_rep (W : World) (z : Int) {X : Nat → Prop} {cl : Cl} {v : Value} (hX : ∀ k, X k → k < W.heap.size) (h : ClAt X W cl v) (o : Obj) :
    PtsAt X ((W.alloc (.cells #[.int .i64 z, v] 111)).alloc o).drew [.rep z cl] [.iface 109 (.pointer (some ⟨W.heap.size, 0, none⟩))] :=
  .rep (fun h => by have := hX _ h; omega) (blk_drew (blk_alloc (blk_new _ _) _)) (h.kept (fun k o' _ ho => blk_drew (blk_alloc (blk_alloc ho _) _)) (fun _ _ h => h)) .nil
theorem it_pos (W : World) {X : Nat → Prop} (o o' : Obj) : PtsAt X ((W.alloc o').alloc o) [.pos] [.iface 101 (.pointer (some ⟨W.heap.size, 0, none⟩))] := .pos .nil
theorem it_num (W : World) (n : Int) {X : Nat → Prop} (hX : ∀ k, X k → k < W.heap.size) (o : Obj) : PtsAt X ((W.alloc (.cells #[.int .i64 n] 91)).alloc o) [.num n] [.iface 89 (.pointer (some ⟨W.heap.size, 0, none⟩))] :=
  .num (fun h => by have := hX _ h; omega) (blk_alloc (blk_new _ _) _) .nil
theorem it_brace (W : World) (x y : Int) {X : Nat → Prop} (hX : ∀ k, X k → k < W.heap.size) (o : Obj) : PtsAt X ((W.alloc (.cells #[.int .i64 x, .int .i64 y] 94)).alloc o) [.brace x y] [.iface 92 (.pointer (some ⟨W.heap.size, 0, none⟩))] :=
  .brace (fun h => by have := hX _ h; omega) (blk_alloc (blk_new _ _) _) .nil
theorem it_cap {W : World} {X : Nat → Prop} {B q n cap : Nat} {must tl : Bool} {ao : Option Addr} {l : List Pt} {vs : List Value} {o : Obj} (h : PatO W B q must tl ao cap l vs) (hc : W.heap[n]? = some (.cells #[.iface 66 (.pointer (some ⟨q, 0, none⟩))] 107 (0, 0))) (hX : ∀ k, X k → k < B) (hn : B ≤ n) (hq : B ≤ q) :
    PtsAt X (W.alloc o) [.cap l] [.iface 104 (.pointer (some ⟨n, 0, none⟩))] :=
  .cap (fun hx => by have := hX _ hx; omega) (blk_alloc hc _) (fun hx => by have := hX _ hx; omega) (blk_alloc h.blk _) (owns_base (h.own.alloc o) (Nat.zero_le _)) (fun g hg hx => by have := (h.row g hg).2.1; have := hX _ hx; omega)
    (h.els.kept (fun k o' _ ho => blk_alloc ho _) (fun k _ hk => .inl (hX k hk))) .nil
theorem chr_min (zs : List Int) (c : Nat) (h : c ≤ zs.length + 1 ∨ True) : chr zs (min c (zs.length + 1)) = chr zs c := by
  unfold chr
  by_cases h1 : c < zs.length
  · rw [show min c (zs.length + 1) = c by omega]
  · rw [if_neg (by omega), if_neg (by omega)]
theorem next_is {z : Int} {c' : Nat} (h : Scan w b sao scap zs c s) (hz : chr zs c = z) (hc : min (c + 1) (zs.length + 1) = c') :
    Calls Tryf.prog 25 #[.pointer (some ⟨b, 0, none⟩)] w fun e w' => e = .returned (.int .i64 z) ∧ Scan w' b sao scap zs c' s ∧ w.grownBy w' (some b) := by
  subst hz hc; exact next_any h
theorem npos_is {z : Int} (h : Scan w b sao scap zs c s) (hz : Hid (nposOf zs.length c = z)) :
    Calls Tryf.prog 31 #[.pointer (some ⟨b, 0, none⟩)] w fun e w' => e = .returned (.int .i64 z) ∧ Scan w' b sao scap zs c s ∧ w.grownBy w' (some b) := by
  rw [← hz.out]
  exact (npos_any h).mono fun e w' ⟨h1, k, h2⟩ => by subst h2; exact ⟨h1, h.drewN' k, one_drewN (one_refl _ _) k⟩
@[go_sem] theorem as_single (v : Value) (w : World) : (Instr.typeAssert (.iface 95 v) 105 95 true).run Tryf.prog w = .ok (.tuple #[v, .bool true]) w := by kernel_rfl
@[go_sem] theorem as_rep (v : Value) (w : World) : (Instr.typeAssert (.iface 109 v) 105 95 true).run Tryf.prog w = .ok (.tuple #[.pointer none, .bool false]) w := by kernel_rfl
@[go_sem] theorem as_pos (v : Value) (w : World) : (Instr.typeAssert (.iface 101 v) 105 95 true).run Tryf.prog w = .ok (.tuple #[.pointer none, .bool false]) w := by kernel_rfl
@[go_sem] theorem as_cap (v : Value) (w : World) : (Instr.typeAssert (.iface 104 v) 105 95 true).run Tryf.prog w = .ok (.tuple #[.pointer none, .bool false]) w := by kernel_rfl
@[go_sem] theorem as_num (v : Value) (w : World) : (Instr.typeAssert (.iface 89 v) 105 95 true).run Tryf.prog w = .ok (.tuple #[.pointer none, .bool false]) w := by kernel_rfl
@[go_sem] theorem as_brace (v : Value) (w : World) : (Instr.typeAssert (.iface 92 v) 105 95 true).run Tryf.prog w = .ok (.tuple #[.pointer none, .bool false]) w := by kernel_rfl
theorem PRun.le {zs : List Int} {top : Bool} {c : Nat} {acc : List Pt} {q : Bool} {r : PR} {l : List Pt} {tl : Bool} {cf : Nat} (h : PRun zs top c acc q r) : c ≤ zs.length + 1 → r = .ok l tl cf → c ≤ cf := by
  induction h generalizing l tl cf with
  | fin _ => intro h1 h2; cases h2; exact h1
  | close _ => intro h1 h2; cases h2; exact Nat.le_refl _
  | closeTop _ => intro _ h2; cases h2
  | idx _ _ => intro _ h2; cases h2
  | clsErr _ _ => intro _ h2; cases h2
  | capOpen _ _ _ _ _ => intro _ h2; cases h2
  | capErr _ _ _ _ => intro _ h2; cases h2
  | num h1 h2 h3 _ ih => intro hc hr; have := ih (by have := chr_lt (zs := zs) (c := _) (by rw [h1]; omega); omega) hr; omega
  | brace h1 h2 _ ih => intro hc hr; have hh := chr_lt (zs := zs) (c := _) (by rw [h1]; omega); have := ih (by omega) hr; omega
  | esc h1 _ _ _ ih => intro hc hr; have := ih (by have := chr_lt (zs := zs) (c := _) (by rw [h1]; omega); omega) hr; omega
  | cls h1 h2 _ ih => intro hc hr; have h3 := parseCls_lt h2; simp only at h3; have := ih (by omega) hr; omega
  | posc h1 _ _ ih => intro hc hr; have := ih (by have := chr_lt (zs := zs) (c := _) (by rw [h1]; omega); omega) hr; omega
  | capt h1 _ _ h3 _ ih1 ih2 => intro hc hr; have h4 := chr_lt (zs := zs) (c := _) (by rw [h1]; omega); have h5 := chr_lt (zs := zs) (c := _) (by rw [h3]; omega); have := ih1 (by omega) rfl; have := ih2 (by omega) hr; omega
  | quant h1 _ ih => intro hc hr; have := ih (by have := chr_lt (zs := zs) (c := _) (by rcases h1 with h | h | h | h <;> (rw [h]; omega)); omega) hr; omega
  | quantLit h1 _ _ ih => intro hc hr; have := ih (by have := chr_lt (zs := zs) (c := _) (by rcases h1 with h | h | h | h <;> (rw [h]; omega)); omega) hr; omega
  | tail h1 _ _ ih => intro hc hr; have := ih (by have := chr_lt (zs := zs) (c := _) (by rw [h1]; omega); omega) hr; omega
  | dollar h1 _ _ ih => intro hc hr; have := ih (by have := chr_lt (zs := zs) (c := _) (by rw [h1]; omega); omega) hr; omega
  | lit h1 _ _ ih => intro hc hr; have := ih (by omega) hr; omega

/-- What the parser of a pattern leaves. -/
def PatPost (w : World) (b : Nat) (sao : Option Addr) (scap : Nat) (zs : List Int) (must tl : Bool) (l : List Pt) (c : Nat) (e : Ending) (w' : World) : Prop :=
  ∃ q ao cap vs s', e = .returned (.pointer (some ⟨q, 0, none⟩)) ∧ w.heap.size ≤ q ∧ PatO w' w.heap.size q must tl ao cap l vs ∧ Scan w' b sao scap zs c s' ∧ w.grownBy w' (some b)
theorem patPost_mk {w w' : World} {B b c s : Nat} {sao : Option Addr} {scap : Nat} {zs : List Int} {must tl : Bool} {ao : Option Addr} {cap : Nat} {l : List Pt} {vs : List Value} (hB : w.heap.size = B) (h : PatO w' B B must tl ao cap l vs) (hs : Scan w' b sao scap zs c s) (hg : w.grownBy w' (some b)) :
    PatPost w b sao scap zs must tl l c (.returned (.pointer (some ⟨B, 0, none⟩))) w' := by
  subst hB
  exact ⟨_, _, _, _, _, rfl, Nat.le_refl _, h, hs, hg⟩

/-- How the parser begins: '^' at the top. -/
def PTop (zs : List Int) (top : Bool) (c : Nat) (must : Bool) (r : PR) : Prop :=
  (top = true ∧ chr zs c = 94 ∧ must = true ∧ PRun zs true (c + 1) [] false r) ∨ ((top = true → (chr zs c == 94) = false) ∧ must = false ∧ PRun zs top c [] false r)
/-- The loop's body, taken out of the translation. -/
def firstLoop : Code → Option Code
  | .loop c => some c
  | .seq a b => match firstLoop a with
    | some c => some c
    | none => firstLoop b
  | .block _ c => firstLoop c
  | .scope c => firstLoop c
  | .cond _ a b => match firstLoop a with
    | some c => some c
    | none => firstLoop b
  | _ => none
noncomputable def ppBody : Code := ((Tryf.f18.body.bind firstLoop).getD .skip)
/-- What the loop's frame keeps. -/
structure PFr (b B : Nat) (top : Bool) (a : Act) : Prop where
  df : a.defers = []
  sz : a.tmps.size = 308
  s0 : a.tmps[0]? = some (.pointer (some ⟨b, 0, none⟩))
  s1 : a.tmps[1]? = some (.bool top)
  s5 : a.tmps[5]? = some (.pointer (some ⟨B, 0, none⟩))
/-- What holds at the loop's head, at the cursor c. -/
def PRel (w : World) (B b : Nat) (sao : Option Addr) (scap : Nat) (zs : List Int) (top must : Bool) (r : PR) (cs : Nat) (wr : World) (c : Nat) : Prop :=
  ∃ s q ao cap acc vs, PatO wr B B must q ao cap acc vs ∧ Scan wr b sao scap zs c s ∧ w.grownBy wr (some b) ∧ PRun zs top c acc q r ∧ acc.length ≤ c ∧ cs ≤ c ∧ c ≤ zs.length + 1
/-- What holds behind it. -/
def PFin (w : World) (B b : Nat) (sao : Option Addr) (scap : Nat) (zs : List Int) (must : Bool) (r : PR) (wr : World) : Prop :=
  ∃ l tl cf s ao cap vs, r = PR.ok l tl cf ∧ PatO wr B B must tl ao cap l vs ∧ Scan wr b sao scap zs cf s ∧ w.grownBy wr (some b)
/-- The loop's ways out. -/
def PQ (w : World) (B b : Nat) (sao : Option Addr) (scap : Nat) (zs : List Int) (top must : Bool) (r : PR) : Exit → Act → World → Prop
  | .goto n, a, w' => n = 0 ∧ PFr b B top a ∧ PFin w B b sao scap zs must r w'
  | .ret, a, w' => PFr b B top a ∧ a.tmps[4]? = some (.pointer (some ⟨B, 0, none⟩)) ∧ PFin w B b sao scap zs must r w'
  | .panic ch, a, w' => a.defers = [] ∧ w.grownBy w' (some b) ∧ ∃ p m, r = PR.err p m ∧ ErrAt w' B p m ch
  | _, _, _ => False
/-- What the parser of a pattern leaves, whatever the pattern. -/
def PatPostR (w : World) (b : Nat) (sao : Option Addr) (scap : Nat) (zs : List Int) (must : Bool) (r : PR) (e : Ending) (w' : World) : Prop :=
  match r with
  | .ok l tl c => PatPost w b sao scap zs must tl l c e w'
  | .err p m => ∃ ch, e = .panicked ch ∧ w.grownBy w' (some b) ∧ ErrAt w' w.heap.size p m ch
/-- The contract of the parser inside a capture, further on in the source. -/
def PIh (b : Nat) (sao : Option Addr) (scap : Nat) (zs : List Int) (cs : Nat) : Prop := ∀ (w : World) (c' s : Nat) (r : PR), Scan w b sao scap zs c' s → cs < c' → c' ≤ zs.length → PRun zs false c' [] false r →
  Calls Tryf.prog 18 #[.pointer (some ⟨b, 0, none⟩), .bool false] w (PatPostR w b sao scap zs false r)

end



section
variable {w : World} {b : Nat} {sao : Option Addr} {scap : Nat} {zs : List Int} {c s : Nat}
def ClErr (w : World) (b : Nat) (p : Int) (e : Ending) (w' : World) : Prop := ∃ ch, e = .panicked ch ∧ w.grownBy w' (some b) ∧ ErrAt w' w.heap.size p 3 ch
set_option maxHeartbeats 4000000 in
set_option maxRecDepth 100000 in
theorem parseSet_err (h : Scan w b sao scap zs c s) (h0 : 0 < zs.length) (hc : c = zs.length) :
    Calls Tryf.prog 39 #[.pointer (some ⟨b, 0, none⟩)] w (ClErr w b ((c : Int) - 1)) := by
  have hbw := Lib.hid (blk_lt h.blk)
  have hsrc := Lib.hid (h.srcLt h0)
  have HS0 := Lib.hid ((h.grownAlloc (.cells #[] 97)).grownAlloc (.cells #[.bool false, .slice (some ⟨w.heap.size, 0, none⟩) 0 0] 142))
  have HG0 := Lib.hid (one_alloc (one_alloc (one_refl w (some b)) (.cells #[] 97)) (.cells #[.bool false, .slice (some ⟨w.heap.size, 0, none⟩) 0 0] 142))
  have H1 : Hid (chr zs c = -1) := Lib.hid (by unfold chr; rw [if_neg (by omega)])
  have HP : Hid (posOf zs.length c = (c : Int) - 1) := Lib.hid (by unfold posOf; rw [if_neg (by omega), if_pos (by omega)])
  clear h
  go_enter Tryf.func39, Tryf.ntmps39
  go_wp2_with fail
  refine wp_scope_exit 0 rfl (fun _ _ _ h => h) ?_
  go_wp2_with fail
  refine (peek_at HS0.out h0 H1.out).mono ?_
  rintro e w1 ⟨rfl, hs1, hg1⟩
  have HS1 := Lib.hid hs1
  have HG1 := Lib.hid (one_trans HG0.out hg1)
  clear hs1 hg1 HS0 HG0
  go_wp2_with fail
  refine wp_loop_once ?_
  go_wp2_with fail
  refine (peek_at HS1.out h0 H1.out).mono ?_
  rintro e w2 ⟨rfl, hs2, hg2⟩
  have HS2 := Lib.hid hs2
  have HG2 := Lib.hid (one_trans HG1.out hg2)
  have HCU := Lib.hid (cur_any hs2)
  rw [HP.out] at HCU
  clear hs2 hg2 HS1 HG1
  go_wp2_with fail
  refine HCU.out.mono ?_
  rintro e wx ⟨rfl, rfl⟩
  go_wp2_with fail
  refine (newErr_any _ _ _).mono ?_
  rintro e wx ⟨rfl, rfl⟩
  go_wp2_with fail
  exact ⟨rfl, _, rfl, one_alloc HG2.out _, w2.heap.size, rfl, HG2.out.size, by rw [hc]; exact blk_new _ _⟩
set_option maxHeartbeats 4000000 in
set_option maxRecDepth 100000 in
theorem parseCls_err (h : Scan w b sao scap zs c s) (hz : chr zs c = 91) (hc : c + 1 = zs.length) :
    Calls Tryf.prog 30 #[.pointer (some ⟨b, 0, none⟩), .bool true] w (ClErr w b (c : Int)) := by
  have HN := Lib.hid (next_at h (by omega) hz)
  have HC := Lib.hid hc
  clear h hz hc
  go_enter Tryf.func30, Tryf.ntmps30
  go_wp2_with fail
  refine HN.out.mono ?_
  rintro e w1 ⟨rfl, hs1, hg1⟩
  have HS := Lib.hid hs1
  have HG := Lib.hid hg1
  clear hs1 hg1
  go_wp2_with fail
  refine (parseSet_err HS.out (by have := HC.out; omega) HC.out).mono ?_
  rintro e w2 ⟨ch, rfl, hgr, g, rfl, hg, hb⟩
  exact ⟨rfl, _, rfl, one_trans HG.out hgr, g, rfl, Nat.le_trans HG.out.size hg, by rw [hb]; simp⟩
end


end Go.Proofs.YtcfhhcjcnafcjaaFmt
