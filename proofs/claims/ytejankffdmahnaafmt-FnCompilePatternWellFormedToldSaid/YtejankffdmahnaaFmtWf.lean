/-
  What the compiler's programs keep: where jumps lead, how often each capture's slot is written and in which order; what the law's loop gathers. Plain laws; no condition beyond what each states.
-/
import Derived.Test.YtejankffdmahnaaFmtCompTop
namespace Go.Proofs.YtejankffdmahnaaFmt
open Go.RowKit
set_option linter.unusedVariables false
set_option linter.unusedSimpArgs false

/-- The slots that an instruction writes (of captures alone: from 2 on). -/
def Ins.touch : Ins → Nat → Bool
  | .save n, s => decide (2 ≤ n) && (s == n)
  | .psave n, s => decide (2 ≤ n) && (s == n || s == n + 1)
  | _, _ => false
def cntL (D : List Ins) (s : Nat) : Nat := D.countP (·.touch s)
theorem cntL_app (A B : List Ins) (s : Nat) : cntL (A ++ B) s = cntL A s + cntL B s := by simp [cntL]
def Ins.isP : Ins → Nat → Bool
  | .psave n, s => n == s
  | _, _ => false
def hasP (D : List Ins) (s : Nat) : Bool := D.any (·.isP s)
theorem hasP_app (A B : List Ins) (s : Nat) : hasP (A ++ B) s = (hasP A s || hasP B s) := by simp [hasP]
/-- The slot s is last written before the slot s + 1. -/
def OrdS (D : List Ins) (s : Nat) : Prop := ∃ A B, D = A ++ B ∧ A ≠ [] ∧ cntL B s = 0 ∧ 0 < cntL B (s + 1)
/-- An instruction is sound in a program of L instructions whose slots lie below k. -/
def Ins.okIn (L k : Nat) : Ins → Prop
  | .jmp a => a < L
  | .split a b => a < L ∧ b < L
  | .save n => n < k
  | .psave n => n + 1 < k ∧ 2 ≤ n ∧ n % 2 = 0
  | _ => True
theorem okIn_mono {L k L' k' : Nat} {i : Ins} (h : i.okIn L k) (hL : L ≤ L') (hk : k ≤ k') : i.okIn L' k' := by
  cases i <;> simp only [Ins.okIn] at * <;> omega
/-- What a stretch of instructions keeps, from the slot k to k'. -/
structure Good (D : List Ins) (L k k' : Nat) : Prop where
  ev : k % 2 = 0
  ev' : k' % 2 = 0
  two : 2 ≤ k
  le : k ≤ k'
  few : k' ≤ k + 2 * D.length
  ok : ∀ i, i ∈ D → i.okIn (L + 1) (max 2 k')
  cnt : ∀ s, cntL D s = if k ≤ s ∧ s < k' then 1 else 0
  ord : ∀ s, s % 2 = 0 → k ≤ s → s < k' → hasP D s = true ∨ OrdS D s
theorem Good.nil {L k : Nat} (h : k % 2 = 0) (h2 : 2 ≤ k) : Good [] L k k :=
  ⟨h, h, h2, Nat.le_refl _, by simp, by simp, fun s => by simp [cntL], fun s _ h1 h2 => by omega⟩
theorem OrdS.left {A D : List Ins} {s : Nat} (h : OrdS D s) : OrdS (A ++ D) s := by
  obtain ⟨X, Y, rfl, hX, h1, h2⟩ := h
  exact ⟨A ++ X, Y, by simp, by simp [hX], h1, h2⟩
theorem OrdS.right {D B : List Ins} {s : Nat} (h : OrdS D s) (h0 : cntL B s = 0) : OrdS (D ++ B) s := by
  obtain ⟨X, Y, rfl, hX, h1, h2⟩ := h
  exact ⟨X, Y ++ B, by simp, hX, by rw [cntL_app]; omega, by rw [cntL_app]; omega⟩
theorem Good.app {A B : List Ins} {L L' k k1 k' : Nat} (h : Good A L k k1) (h' : Good B L' k1 k') (hL : L ≤ L') : Good (A ++ B) L' k k' where
  ev := h.ev
  ev' := h'.ev'
  two := h.two
  le := Nat.le_trans h.le h'.le
  few := by rw [List.length_append]; have := h.few; have := h'.few; omega
  ok := fun i hi => by
    rw [List.mem_append] at hi
    rcases hi with hi | hi
    · exact okIn_mono (h.ok i hi) (by omega) (by have := h'.le; omega)
    · exact h'.ok i hi
  cnt := fun s => by
    have h1 := h.le
    have h2 := h'.le
    rw [cntL_app, h.cnt, h'.cnt]
    by_cases a : k ≤ s <;> by_cases b : s < k1 <;> by_cases c : s < k' <;> simp [a, b, c] <;> omega
  ord := fun s he h1 h2 => by
    by_cases hs : s < k1
    · rcases h.ord s he h1 hs with hp | ho
      · exact .inl (by rw [hasP_app, hp]; rfl)
      · exact .inr (ho.right (by rw [h'.cnt, if_neg (by omega)]))
    · rcases h'.ord s he (by omega) h2 with hp | ho
      · exact .inl (by rw [hasP_app, hp, Bool.or_true])
      · exact .inr ho.left
theorem Good.plain {D : List Ins} {L k : Nat} (h : k % 2 = 0) (h2 : 2 ≤ k) (hok : ∀ i, i ∈ D → i.okIn (L + 1) 0) (ht : ∀ i, i ∈ D → ∀ s, i.touch s = false) : Good D L k k where
  ev := h
  ev' := h
  two := h2
  le := Nat.le_refl _
  few := by omega
  ok := fun i hi => okIn_mono (hok i hi) (Nat.le_refl _) (Nat.zero_le _)
  cnt := fun s => by
    rw [if_neg (by omega)]
    unfold cntL
    rw [List.countP_eq_zero]
    intro i hi
    rw [ht i hi s]
    simp
  ord := fun s _ h1 h2 => by omega
theorem Good.pos {L k : Nat} (h : k % 2 = 0) (h2 : 2 ≤ k) : Good [.psave k] L k (k + 2) where
  ev := h
  ev' := by omega
  two := h2
  le := by omega
  few := by simp
  ok := fun i hi => by
    rw [List.mem_singleton] at hi
    subst hi
    simp only [Ins.okIn]
    omega
  cnt := fun s => by
    simp only [cntL, List.countP_cons, List.countP_nil, Ins.touch, h2, decide_true, Bool.true_and, Bool.or_eq_true, beq_iff_eq, Nat.zero_add]
    by_cases a : s = k <;> by_cases b : s = k + 1 <;> simp [a, b] <;> omega
  ord := fun s he h1 h3 => by
    obtain rfl : s = k := by omega
    exact .inl (by simp [hasP, Ins.isP])
theorem Good.cap {D : List Ins} {L k k1 : Nat} (h : Good D L (k + 2) k1) (hk : k % 2 = 0) (h2 : 2 ≤ k) : Good (.save k :: D ++ [.save (k + 1)]) L k k1 where
  ev := hk
  ev' := h.ev'
  two := h2
  le := by have := h.le; omega
  few := by have := h.few; simp; omega
  ok := fun i hi => by
    have := h.le
    rw [List.mem_append, List.mem_cons, List.mem_singleton] at hi
    rcases hi with (rfl | hi) | rfl
    · simp only [Ins.okIn]; omega
    · exact h.ok i hi
    · simp only [Ins.okIn]; omega
  cnt := fun s => by
    have hl := h.le
    have e : cntL (.save k :: D ++ [.save (k + 1)]) s = (if s = k then 1 else 0) + cntL D s + (if s = k + 1 then 1 else 0) := by
      rw [List.cons_append, show (Ins.save k :: (D ++ [Ins.save (k + 1)])) = [Ins.save k] ++ D ++ [Ins.save (k + 1)] by simp, cntL_app, cntL_app]
      have e1 : ∀ n, 2 ≤ n → cntL [Ins.save n] s = if s = n then 1 else 0 := fun n hn => by
        simp only [cntL, List.countP_cons, List.countP_nil, Ins.touch, hn, decide_true, Bool.true_and, beq_iff_eq, Nat.zero_add]
      rw [e1 k h2, e1 (k + 1) (by omega)]
    rw [e, h.cnt]
    by_cases a : s = k
    · subst a; rw [if_pos rfl, if_neg (by omega), if_neg (by omega), if_pos (by omega)]
    · by_cases b : s = k + 1
      · subst b; rw [if_neg (by omega), if_neg (by omega), if_pos rfl, if_pos (by omega)]
      · rw [if_neg a, if_neg b]
        by_cases c : k + 2 ≤ s ∧ s < k1
        · rw [if_pos c, if_pos (by omega)]
        · rw [if_neg c, if_neg (by omega)]
  ord := fun s he h1 h3 => by
    by_cases a : s = k
    · subst a
      refine .inr ⟨[.save s], D ++ [.save (s + 1)], by simp, by simp, ?_, ?_⟩
      · rw [cntL_app, h.cnt, if_neg (by omega)]
        simp [cntL, Ins.touch]
      · rw [cntL_app]
        have : cntL [Ins.save (s + 1)] (s + 1) = 1 := by simp [cntL, Ins.touch]; omega
        omega
    · rcases h.ord s he (by omega) h3 with hp | ho
      · exact .inl (by rw [List.cons_append, show (Ins.save k :: (D ++ [Ins.save (k + 1)])) = [Ins.save k] ++ D ++ [Ins.save (k + 1)] by simp, hasP_app, hasP_app, hp]; simp)
      · refine .inr ?_
        rw [List.cons_append, show (Ins.save k :: (D ++ [Ins.save (k + 1)])) = [Ins.save k] ++ D ++ [Ins.save (k + 1)] by simp]
        refine (ho.left).right ?_
        simp [cntL, Ins.touch]
        omega
theorem crun_good {l : List Pt} {I I' : List Ins} {k k' : Nat} (h : CRun l I k I' k') : k % 2 = 0 → 2 ≤ k → ∃ D, I' = I ++ D ∧ Good D I'.length k k' := by
  have step : ∀ {E : List Ins} {I0 J : List Ins} {k0 k1 k2 : Nat}, Good E J.length k0 k1 → (∃ D, J = (I0 ++ E) ++ D ∧ Good D J.length k1 k2) → ∃ D, J = I0 ++ D ∧ Good D J.length k0 k2 := by
    rintro E I0 J k0 k1 k2 hE ⟨D, rfl, hD⟩
    exact ⟨E ++ D, by simp, hE.app hD (Nat.le_refl _)⟩
  induction h with
  | nil => exact fun h h2 => ⟨[], by simp, .nil h h2⟩
  | @one c ps I k I' k' h1 ih =>
    intro h h2
    exact step (.plain h h2 (by simp [Ins.okIn]) (by simp [Ins.touch])) (ih h h2)
  | @star c ps I k I' k' h1 ih =>
    intro h h2
    obtain ⟨D, hD, hg⟩ := ih h h2
    refine step (.plain h h2 ?_ (by simp [Ins.touch])) ⟨D, hD, hg⟩
    have : I'.length = I.length + 3 + D.length := by rw [hD]; simp; omega
    intro i hi
    simp only [List.mem_cons, List.not_mem_nil, or_false] at hi
    rcases hi with rfl | rfl | rfl <;> simp only [Ins.okIn] <;> omega
  | @plus c ps I k I' k' h1 ih =>
    intro h h2
    obtain ⟨D, hD, hg⟩ := ih h h2
    refine step (.plain h h2 ?_ (by simp [Ins.touch])) ⟨D, hD, hg⟩
    have : I'.length = I.length + 2 + D.length := by rw [hD]; simp; omega
    intro i hi
    simp only [List.mem_cons, List.not_mem_nil, or_false] at hi
    rcases hi with rfl | rfl <;> simp only [Ins.okIn] <;> omega
  | @minus c ps I k I' k' h1 ih =>
    intro h h2
    obtain ⟨D, hD, hg⟩ := ih h h2
    refine step (.plain h h2 ?_ (by simp [Ins.touch])) ⟨D, hD, hg⟩
    have : I'.length = I.length + 3 + D.length := by rw [hD]; simp; omega
    intro i hi
    simp only [List.mem_cons, List.not_mem_nil, or_false] at hi
    rcases hi with rfl | rfl | rfl <;> simp only [Ins.okIn] <;> omega
  | @opt c ps I k I' k' h1 ih =>
    intro h h2
    obtain ⟨D, hD, hg⟩ := ih h h2
    refine step (.plain h h2 ?_ (by simp [Ins.touch])) ⟨D, hD, hg⟩
    have : I'.length = I.length + 2 + D.length := by rw [hD]; simp; omega
    intro i hi
    simp only [List.mem_cons, List.not_mem_nil, or_false] at hi
    rcases hi with rfl | rfl <;> simp only [Ins.okIn] <;> omega
  | @pos ps I k I' k' h1 ih =>
    intro h h2
    exact step (.pos h h2) (ih (by omega) (by omega))
  | @cap l ps I k I1 k1 I' k' h1 h3 ih1 ih2 =>
    intro h h2
    obtain ⟨D, hD, hg⟩ := ih1 (by omega) (by omega)
    obtain ⟨D2, hD2, hg2⟩ := ih2 hg.ev' (by have := hg.le; omega)
    have hL : I1.length ≤ I'.length := by rw [hD2]; simp
    have hc := hg.cap h h2
    have hc' : Good (.save k :: D ++ [.save (k + 1)]) I'.length k k1 := ⟨hc.ev, hc.ev', hc.two, hc.le, hc.few, fun i hi => okIn_mono (hc.ok i hi) (by omega) (Nat.le_refl _), hc.cnt, hc.ord⟩
    exact ⟨(.save k :: D ++ [.save (k + 1)]) ++ D2, by rw [hD2, hD]; simp, hc'.app hg2 (Nat.le_refl _)⟩
  | @num n ps I k I' k' h1 ih =>
    intro h h2
    exact step (.plain h h2 (by simp [Ins.okIn]) (by simp [Ins.touch])) (ih h h2)
  | @brace b e ps I k I' k' h1 ih =>
    intro h h2
    exact step (.plain h h2 (by simp [Ins.okIn]) (by simp [Ins.touch])) (ih h h2)

def touchAt (J : List Ins) (m s : Nat) : Bool := match J[m]? with
  | some i => i.touch s
  | none => false
/-- Where a slot was last written. -/
def atF (J : List Ins) : Nat → Nat → Nat
  | 0, _ => 0
  | m + 1, s => if touchAt J m s = true then m else atF J m s
def topI (t : Nat) : Ins → Nat
  | .save n => if 2 ≤ n ∧ t < n then n else t
  | .psave n => if 2 ≤ n then max (n + 1) t else t
  | _ => t
/-- The greatest slot so far. -/
def topF (J : List Ins) : Nat → Nat
  | 0 => 1
  | m + 1 => match J[m]? with
    | some i => topI (topF J m) i
    | none => topF J m
theorem take_step {J : List Ins} {m : Nat} {i : Ins} (h : J[m]? = some i) : J.take (m + 1) = J.take m ++ [i] := by
  obtain ⟨hm, rfl⟩ := List.getElem?_eq_some_iff.1 h
  rw [List.take_succ_eq_append_getElem hm]
theorem cnt_step {J : List Ins} {m : Nat} {i : Ins} (h : J[m]? = some i) (s : Nat) : cntL (J.take (m + 1)) s = cntL (J.take m) s + if i.touch s = true then 1 else 0 := by
  rw [take_step h, cntL_app]
  congr 1
  simp [cntL, List.countP_cons]
theorem hasP_step {J : List Ins} {m : Nat} {i : Ins} (h : J[m]? = some i) (s : Nat) : hasP (J.take (m + 1)) s = (hasP (J.take m) s || i.isP s) := by
  rw [take_step h, hasP_app]
  simp [hasP]
theorem touch_two {i : Ins} {s : Nat} (h : i.touch s = true) : 2 ≤ s := by
  cases i <;> simp [Ins.touch] at h <;> omega
theorem top_spec (J : List Ins) : ∀ m, m ≤ J.length → 1 ≤ topF J m ∧ (∀ s, 0 < cntL (J.take m) s → s ≤ topF J m) ∧ (topF J m = 1 ∨ 0 < cntL (J.take m) (topF J m))
  | 0, _ => by simp [topF, cntL]
  | m + 1, h => by
    obtain ⟨h1, h2, h3⟩ := top_spec J m (by omega)
    obtain ⟨i, hi⟩ : ∃ i, J[m]? = some i := ⟨J[m], List.getElem?_eq_getElem (by omega)⟩
    have ht : topF J (m + 1) = topI (topF J m) i := by simp [topF, hi]
    have hc := cnt_step hi
    rw [ht]
    generalize topF J m = t at *
    have same : (∀ s, i.touch s = true → s ≤ t) → topI t i = t → 1 ≤ topI t i ∧ (∀ s, 0 < cntL (J.take (m + 1)) s → s ≤ topI t i) ∧ (topI t i = 1 ∨ 0 < cntL (J.take (m + 1)) (topI t i)) := by
      intro hle he
      rw [he]
      refine ⟨h1, fun s hs => ?_, h3.imp id (fun h => by rw [hc]; omega)⟩
      rw [hc] at hs
      by_cases hb : i.touch s = true
      · exact hle s hb
      · exact h2 s (by simpa [hb] using hs)
    cases i with
    | save n =>
      by_cases hn : 2 ≤ n ∧ t < n
      · have e : topI t (.save n) = n := by simp [topI, hn]
        rw [e]
        refine ⟨by omega, fun s hs => ?_, .inr ?_⟩
        · rw [hc] at hs
          by_cases hb : (Ins.save n).touch s = true
          · simp [Ins.touch] at hb; omega
          · have := h2 s (by simpa [hb] using hs); omega
        · rw [hc, if_pos (by simp [Ins.touch]; omega)]; omega
      · refine same (fun s hs => ?_) (by simp [topI]; omega)
        simp [Ins.touch] at hs; omega
    | psave n =>
      by_cases hn : 2 ≤ n ∧ t < n + 1
      · have e : topI t (.psave n) = n + 1 := by simp [topI, hn.1]; omega
        rw [e]
        refine ⟨by omega, fun s hs => ?_, .inr ?_⟩
        · rw [hc] at hs
          by_cases hb : (Ins.psave n).touch s = true
          · simp [Ins.touch] at hb; omega
          · have := h2 s (by simpa [hb] using hs); omega
        · rw [hc, if_pos (by simp [Ins.touch]; omega)]; omega
      · refine same (fun s hs => ?_) (by simp [topI]; omega)
        simp [Ins.touch] at hs; omega
    | _ => exact same (fun s hs => by simp [Ins.touch] at hs) rfl
theorem at_lt (J : List Ins) (s : Nat) : ∀ m, 0 < m → atF J m s < m
  | 0, h => by omega
  | 1, _ => by simp [atF]
  | m + 2, _ => by
    have := at_lt J s (m + 1) (by omega)
    rw [atF]
    split <;> omega
theorem cnt_zero {B : List Ins} {s j : Nat} {i : Ins} (h : cntL B s = 0) (hi : B[j]? = some i) : i.touch s = false := by
  unfold cntL at h
  rw [List.countP_eq_zero] at h
  have := h i (List.mem_of_getElem? hi)
  simpa using this
theorem at_before {A B : List Ins} {s : Nat} (hA : A ≠ []) (h : cntL B s = 0) : ∀ m, A.length ≤ m → m ≤ (A ++ B).length → atF (A ++ B) m s < A.length
  | 0, h1, _ => by
    have : A.length = 0 := by omega
    exact absurd (List.eq_nil_of_length_eq_zero this) hA
  | m + 1, h1, h2 => by
    by_cases hm : A.length = m + 1
    · rw [hm]; exact at_lt _ _ _ (by omega)
    · have ih := at_before hA h m (by omega) (by omega)
      rw [atF, if_neg, ]
      · exact ih
      · unfold touchAt
        rw [List.getElem?_append_right (by omega)]
        cases hb : B[m - A.length]? with
        | none => simp
        | some i => simp [cnt_zero h hb]
theorem at_after {J : List Ins} {j s : Nat} (h : touchAt J j s = true) : ∀ m, j < m → j ≤ atF J m s
  | 0, hj => by omega
  | m + 1, hj => by
    rw [atF]
    split
    · omega
    · rename_i hn
      by_cases e : j = m
      · subst e; exact absurd h hn
      · exact at_after h m (by omega)
theorem ord_at {J : List Ins} {s : Nat} (h : OrdS J s) : atF J J.length s < atF J J.length (s + 1) := by
  obtain ⟨A, B, rfl, hA, h0, h1⟩ := h
  have h2 := at_before hA h0 (A ++ B).length (by simp) (Nat.le_refl _)
  unfold cntL at h1
  rw [List.countP_pos_iff] at h1
  obtain ⟨i, hi, ht⟩ := h1
  obtain ⟨j, hj⟩ := List.mem_iff_getElem?.1 hi
  have h3 : A.length + j ≤ atF (A ++ B) (A ++ B).length (s + 1) := by
    refine at_after ?_ _ ?_
    · unfold touchAt
      rw [List.getElem?_append_right (by omega), Nat.add_sub_cancel_left, hj]
      exact ht
    · have := (List.getElem?_eq_some_iff.1 hj).1
      simp; omega
  omega
/-- What the law asks of the final state. -/
structure Fine (J : List Ins) : Prop where
  len : 3 ≤ J.length
  first : J[0]? = some (.save 0)
  last : J[J.length - 1]? = some .mat
  last2 : J[J.length - 2]? = some (.save 1)
  ok : ∀ i, i ∈ J → i.okIn J.length (2 * J.length + 2)
  odd : topF J J.length % 2 = 1
  small : topF J J.length < 2 * J.length + 2
  one : ∀ s, 2 ≤ s → s ≤ topF J J.length → cntL J s = 1
  two : ∀ s, s % 2 = 0 → 2 ≤ s → s + 1 ≤ topF J J.length → hasP J s = true ∨ atF J J.length s < atF J J.length (s + 1)
theorem prog_fine {l : List Pt} {I' : List Ins} {k' : Nat} (tl : Bool) (h : CRun l [.save 0] 2 I' k') : Fine (progOf tl I') := by
  obtain ⟨D, rfl, hg⟩ := crun_good h (by decide) (by decide)
  obtain ⟨E, hE, hEt⟩ : ∃ E : List Ins, progOf tl ([.save 0] ++ D) = [Ins.save 0] ++ D ++ E ++ [Ins.save 1, Ins.mat] ∧ (E = [] ∨ E = [.save 1, .tmat]) := by
    unfold progOf
    cases tl
    · exact ⟨[], by simp, .inl rfl⟩
    · exact ⟨[.save 1, .tmat], by simp, .inr rfl⟩
  rw [hE]
  have hc0 : ∀ s, cntL [Ins.save 0] s = 0 := fun s => by simp [cntL, Ins.touch]
  have hc1 : ∀ s, cntL [Ins.save 1, .mat] s = 0 := fun s => by simp [cntL, Ins.touch]
  have hcE : ∀ s, cntL E s = 0 := fun s => by rcases hEt with rfl | rfl <;> simp [cntL, Ins.touch]
  have hcnt : ∀ s, cntL ([Ins.save 0] ++ D ++ E ++ [Ins.save 1, Ins.mat]) s = if 2 ≤ s ∧ s < k' then 1 else 0 := fun s => by
    rw [cntL_app, cntL_app, cntL_app, hc0, hc1, hcE, hg.cnt]; omega
  have hlen : ([Ins.save 0] ++ D ++ E ++ [Ins.save 1, Ins.mat]).length = D.length + E.length + 3 := by simp; omega
  have hle := hg.le
  have hev := hg.ev'
  have hfew := hg.few
  obtain ⟨t1, t2, t3⟩ := top_spec ([Ins.save 0] ++ D ++ E ++ [Ins.save 1, Ins.mat]) _ (Nat.le_refl _)
  rw [List.take_length] at t2 t3
  have htop : topF ([Ins.save 0] ++ D ++ E ++ [Ins.save 1, Ins.mat]) ([Ins.save 0] ++ D ++ E ++ [Ins.save 1, Ins.mat]).length = k' - 1 := by
    clear hlen hc1 hc0 hcE hE
    generalize topF ([Ins.save 0] ++ D ++ E ++ [Ins.save 1, Ins.mat]) ([Ins.save 0] ++ D ++ E ++ [Ins.save 1, Ins.mat]).length = t at t1 t2 t3 ⊢
    by_cases hk : k' = 2
    · rcases t3 with h | h
      · omega
      · rw [hcnt, if_neg (by omega)] at h; omega
    · have a := t2 (k' - 1) (by rw [hcnt, if_pos (by omega)]; omega)
      rcases t3 with h | h
      · omega
      · rw [hcnt] at h
        by_cases hb : 2 ≤ t ∧ t < k'
        · omega
        · rw [if_neg hb] at h; omega
  refine ⟨by omega, by simp, ?_, ?_, ?_, by omega, by omega, ?_, ?_⟩
  · have e0 : ([Ins.save 0] ++ D ++ E).length = D.length + E.length + 1 := by simp
    rw [hlen, List.getElem?_append_right (by omega), e0, show D.length + E.length + 3 - 1 - (D.length + E.length + 1) = 1 by omega]
    rfl
  · have e0 : ([Ins.save 0] ++ D ++ E).length = D.length + E.length + 1 := by simp
    rw [hlen, List.getElem?_append_right (by omega), e0, show D.length + E.length + 3 - 2 - (D.length + E.length + 1) = 0 by omega]
    rfl
  · intro i hi
    simp only [List.mem_append, List.mem_cons, List.not_mem_nil, or_false] at hi
    rcases hi with ((hi | hi) | hi) | hi
    · subst hi; simp only [Ins.okIn]; omega
    · refine okIn_mono (hg.ok i hi) ?_ ?_
      · rw [hlen]; simp; omega
      · rw [hlen]; omega
    · rcases hEt with rfl | rfl
      · cases hi
      · simp only [List.mem_cons, List.not_mem_nil, or_false] at hi
        rcases hi with rfl | rfl <;> simp only [Ins.okIn]; omega
    · rcases hi with rfl | rfl <;> simp only [Ins.okIn]; omega
  · intro s h1 h2
    rw [hcnt, if_pos (by omega)]
  · intro s he h1 h2
    rcases hg.ord s he h1 (by omega) with hp | ho
    · exact .inl (by rw [hasP_app, hasP_app, hasP_app, hp]; simp)
    · exact .inr (ord_at ((ho.left.right (hcE s)).right (hc1 s)))
end Go.Proofs.YtejankffdmahnaaFmt
