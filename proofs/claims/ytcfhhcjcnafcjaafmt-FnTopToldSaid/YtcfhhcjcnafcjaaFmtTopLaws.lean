/-
  Whole patterns: captures in order, the program, the parser's reading, both searches alike: plain laws. Conditions as each statement says.
-/
import Derived.Test.YtcfhhcjcnafcjaaFmtMtAll
import Derived.Test.YtcfhhcjcnafcjaaFmtCompTop
import Derived.Test.YtcfhhcjcnafcjaaFmtMatchRefs
import Derived.Test.YtcfhhcjcnafcjaaFmtFindAll
namespace Go.Proofs.YtcfhhcjcnafcjaaFmt
open Go.RowKit
set_option linter.unusedVariables false
set_option linter.unusedSimpArgs false


/-- As Lin, the references aside. -/
def LinW (nc : Nat) : Cx → List Tk → Prop
  | _, [] => True
  | X, .cls k q :: ts => q ∈ quants ∧ LinW nc X ts
  | X, .opn n :: ts => 1 ≤ n ∧ n ≤ nc ∧ n ∉ X.o ∧ n ∉ X.p ∧ LinW nc (X.adv (.opn n)) ts
  | X, .clo n :: ts => 1 ≤ n ∧ n ≤ nc ∧ n ∈ X.o ∧ n ∉ X.p ∧ n ∉ X.c ∧ LinW nc (X.adv (.clo n)) ts
  | X, .pos n :: ts => 1 ≤ n ∧ n ≤ nc ∧ n ∉ X.o ∧ n ∉ X.p ∧ n ∉ X.c ∧ LinW nc (X.adv (.pos n)) ts
  | X, .ref n :: ts => n ≤ 9 ∧ LinW nc X ts
  | X, .brc x y :: ts => LinW nc X ts
theorem lin_of {nc : Nat} : ∀ (ts : List Tk) (X : Cx), LinW nc X ts → (∀ n, n ∈ X.c → n ≤ nc) → (∀ (pre : List Tk) (n : Nat) (post : List Tk), ts = pre ++ .ref n :: post → n ∈ X.c ∨ .clo n ∈ pre) → Lin nc X ts
  | [], X, h, hc, hr => trivial
  | .cls k q :: ts, X, h, hc, hr => ⟨h.1, lin_of ts X h.2 hc (fun pre n post e => by
      rcases hr (.cls k q :: pre) n post (by rw [e]; rfl) with h | h
      · exact .inl h
      · exact .inr (by simpa using h))⟩
  | .opn m :: ts, X, h, hc, hr => ⟨h.1, h.2.1, h.2.2.1, h.2.2.2.1, lin_of ts _ h.2.2.2.2 hc (fun pre n post e => by
      rcases hr (.opn m :: pre) n post (by rw [e]; rfl) with h | h
      · exact .inl h
      · exact .inr (by simpa using h))⟩
  | .clo m :: ts, X, h, hc, hr => ⟨h.1, h.2.1, h.2.2.1, h.2.2.2.1, h.2.2.2.2.1, lin_of ts _ h.2.2.2.2.2 (fun n hn => by
      rcases List.mem_cons.1 hn with rfl | hn
      · exact h.2.1
      · exact hc n hn) (fun pre n post e => by
      rcases hr (.clo m :: pre) n post (by rw [e]; rfl) with h | h
      · exact .inl (List.mem_cons_of_mem _ h)
      · rcases List.mem_cons.1 h with h | h
        · injection h with h; subst h; exact .inl List.mem_cons_self
        · exact .inr h)⟩
  | .pos m :: ts, X, h, hc, hr => ⟨h.1, h.2.1, h.2.2.1, h.2.2.2.1, h.2.2.2.2.1, lin_of ts _ h.2.2.2.2.2 hc (fun pre n post e => by
      rcases hr (.pos m :: pre) n post (by rw [e]; rfl) with h | h
      · exact .inl h
      · exact .inr (by simpa using h))⟩
  | .ref m :: ts, X, h, hc, hr => by
    have hm : m ∈ X.c := by
      rcases hr [] m ts rfl with h | h
      · exact h
      · cases h
    exact ⟨hm, hc m hm, lin_of ts X h.2 hc (fun pre n post e => by
      rcases hr (.ref m :: pre) n post (by rw [e]; rfl) with h | h
      · exact .inl h
      · exact .inr (by simpa using h))⟩
  | .brc x y :: ts, X, h, hc, hr => lin_of ts X h hc (fun pre n post e => by
      rcases hr (.brc x y :: pre) n post (by rw [e]; rfl) with h | h
      · exact .inl h
      · exact .inr (by simpa using h))
/-- What a whole row of tokens adds: numbers from k to k' - 1. -/
structure Adds (X Y : Cx) (k k' : Nat) : Prop where
  so : ∀ n, n ∈ X.o → n ∈ Y.o
  o : ∀ n, n ∈ Y.o → n ∈ X.o ∨ (k ≤ n ∧ n < k')
  p : ∀ n, n ∈ Y.p → n ∈ X.p ∨ (k ≤ n ∧ n < k')
  c : ∀ n, n ∈ Y.c → n ∈ X.c ∨ (k ≤ n ∧ n < k')
theorem ts_linW {nc k k' : Nat} {ts : List Tk} (h : TS k k' ts) : ∀ (X : Cx) (rest : List Tk), (∀ n, n ∈ X.o → n < k) → (∀ n, n ∈ X.p → n < k) → (∀ n, n ∈ X.c → n < k) → 1 ≤ k → k' ≤ nc + 1 → (∀ Y, Adds X Y k k' → LinW nc Y rest) → LinW nc X (ts ++ rest) := by
  induction h with
  | nil => intro X rest h1 h2 h3 h4 h5 hr; exact hr X ⟨fun n hn => hn, fun n hn => .inl hn, fun n hn => .inl hn, fun n hn => .inl hn⟩
  | cls _ hq _ ih => intro X rest h1 h2 h3 h4 h5 hr; exact ⟨hq, ih X rest h1 h2 h3 h4 h5 hr⟩
  | @pos k k' ts hts ih =>
    intro X rest h1 h2 h3 h4 h5 hr
    have hle := hts.le
    refine ⟨h4, by omega, fun hn => by have := h1 _ hn; omega, fun hn => by have := h2 _ hn; omega, fun hn => by have := h3 _ hn; omega, ?_⟩
    refine ih _ rest (fun n hn => by have := h1 n hn; omega) (fun n hn => ?_) (fun n hn => by have := h3 n hn; omega) (by omega) h5 (fun Y hY => ?_)
    · rcases List.mem_cons.1 hn with rfl | hn
      · omega
      · have := h2 n hn; omega
    · refine hr Y ⟨hY.so, fun n hn => (hY.o n hn).imp id (fun h => ⟨by omega, h.2⟩), fun n hn => ?_, fun n hn => (hY.c n hn).imp id (fun h => ⟨by omega, h.2⟩)⟩
      rcases hY.p n hn with h | h
      · rcases List.mem_cons.1 h with rfl | h
        · exact .inr ⟨Nat.le_refl _, by omega⟩
        · exact .inl h
      · exact .inr ⟨by omega, h.2⟩
  | @cap k k1 k' inner ts hi hne hts ih1 ih2 =>
    intro X rest h1 h2 h3 h4 h5 hr
    have hle1 := hi.le
    have hle2 := hts.le
    have e : Tk.opn k :: (inner ++ Tk.clo k :: ts) ++ rest = Tk.opn k :: (inner ++ (Tk.clo k :: (ts ++ rest))) := by simp
    rw [e]
    refine ⟨h4, by omega, fun hn => by have := h1 _ hn; omega, fun hn => by have := h2 _ hn; omega, ?_⟩
    refine ih1 _ _ (fun n hn => ?_) (fun n hn => by have := h2 n hn; omega) (fun n hn => by have := h3 n hn; omega) (by omega) (by omega) (fun Y1 hY1 => ?_)
    · rcases List.mem_cons.1 hn with rfl | hn
      · omega
      · have := h1 n hn; omega
    · have ho : ∀ n, n ∈ Y1.o → n ∈ X.o ∨ (k ≤ n ∧ n < k1) := fun n hn => by
        rcases hY1.o n hn with h | h
        · rcases List.mem_cons.1 h with rfl | h
          · exact .inr ⟨Nat.le_refl _, by omega⟩
          · exact .inl h
        · exact .inr ⟨by omega, h.2⟩
      refine ⟨h4, by omega, hY1.so k List.mem_cons_self, fun hn => ?_, fun hn => ?_, ?_⟩
      · rcases hY1.p k hn with h | h
        · have := h2 k h; omega
        · omega
      · rcases hY1.c k hn with h | h
        · have := h3 k h; omega
        · omega
      · refine ih2 _ rest (fun n hn => ?_) (fun n hn => ?_) (fun n hn => ?_) (by omega) h5 (fun Y hY => ?_)
        · rcases ho n hn with h | h
          · have := h1 n h; omega
          · exact h.2
        · rcases hY1.p n hn with h | h
          · have := h2 n h; omega
          · exact h.2
        · rcases List.mem_cons.1 hn with rfl | hn
          · omega
          · rcases hY1.c n hn with h | h
            · have := h3 n h; omega
            · exact h.2
        · refine hr Y ⟨fun n hn => hY.so n (hY1.so n (List.mem_cons_of_mem _ hn)), fun n hn => ?_, fun n hn => ?_, fun n hn => ?_⟩
          · rcases hY.o n hn with h | h
            · rcases ho n h with h | h
              · exact .inl h
              · exact .inr ⟨h.1, by omega⟩
            · exact .inr ⟨by omega, h.2⟩
          · rcases hY.p n hn with h | h
            · rcases hY1.p n h with h | h
              · exact .inl h
              · exact .inr ⟨by omega, by omega⟩
            · exact .inr ⟨by omega, h.2⟩
          · rcases hY.c n hn with h | h
            · rcases List.mem_cons.1 h with rfl | h
              · exact .inr ⟨Nat.le_refl _, by omega⟩
              · rcases hY1.c n h with h | h
                · exact .inl h
                · exact .inr ⟨by omega, by omega⟩
            · exact .inr ⟨by omega, h.2⟩
  | ref _ h9 _ ih => intro X rest h1 h2 h3 h4 h5 hr; exact ⟨h9, ih X rest h1 h2 h3 h4 h5 hr⟩
  | brc _ _ ih => intro X rest h1 h2 h3 h4 h5 hr; exact ih X rest h1 h2 h3 h4 h5 hr
/-- A whole pattern's captures are in order. -/
theorem ts_lin {nc : Nat} {ts : List Tk} (h : TS 1 (nc + 1) ts) (hr : RefsOk ts) : Lin nc ⟨[], [], []⟩ ts := by
  have hw := ts_linW (nc := nc) h ⟨[], [], []⟩ [] (fun n hn => by cases hn) (fun n hn => by cases hn) (fun n hn => by cases hn) (Nat.le_refl _) (Nat.le_refl _) (fun Y _ => trivial)
  rw [List.append_nil] at hw
  exact lin_of ts _ hw (fun n hn => by cases hn) (fun pre n post e => .inr (hr pre n post e))
theorem adv_fold : ∀ (ts : List Tk) (X : Cx), (∀ n, n ∈ X.c ∨ .clo n ∈ ts → n ∈ (ts.foldl Cx.adv X).c) ∧ (∀ n, n ∈ X.p ∨ .pos n ∈ ts → n ∈ (ts.foldl Cx.adv X).p) ∧ (∀ n, n ∈ X.o ∨ .opn n ∈ ts → n ∈ (ts.foldl Cx.adv X).o)
  | [], X => ⟨fun n h => by simpa using h, fun n h => by simpa using h, fun n h => by simpa using h⟩
  | t :: ts, X => by
    have ih := adv_fold ts (X.adv t)
    rw [List.foldl_cons]
    refine ⟨fun n h => ih.1 n ?_, fun n h => ih.2.1 n ?_, fun n h => ih.2.2 n ?_⟩
    · rcases h with h | h
      · left; cases t <;> simp [Cx.adv, h]
      · rcases List.mem_cons.1 h with h | h
        · subst h; left; simp [Cx.adv]
        · exact .inr h
    · rcases h with h | h
      · left; cases t <;> simp [Cx.adv, h]
      · rcases List.mem_cons.1 h with h | h
        · subst h; left; simp [Cx.adv]
        · exact .inr h
    · rcases h with h | h
      · left; cases t <;> simp [Cx.adv, h]
      · rcases List.mem_cons.1 h with h | h
        · subst h; left; simp [Cx.adv]
        · exact .inr h
/-- Which numbers are positions. -/
theorem ps_ts {k k' : Nat} {ts : List Tk} (h : TS k k' ts) : (psOf ts).length = k' - k ∧ ∀ (j : Nat) (b : Bool), (psOf ts)[j]? = some b → (b = true → .pos (k + j) ∈ ts) ∧ (b = false → .opn (k + j) ∈ ts ∧ .clo (k + j) ∈ ts) := by
  induction h with
  | nil => exact ⟨by simp [psOf], fun j b h => by simp [psOf] at h⟩
  | @cls _ _ c q ts _ _ _ ih => exact ⟨ih.1, fun j b h => ⟨fun hb => List.mem_cons_of_mem _ ((ih.2 j b h).1 hb), fun hb => ⟨List.mem_cons_of_mem _ ((ih.2 j b h).2 hb).1, List.mem_cons_of_mem _ ((ih.2 j b h).2 hb).2⟩⟩⟩
  | @ref _ _ n ts _ _ _ ih => exact ⟨ih.1, fun j b h => ⟨fun hb => List.mem_cons_of_mem _ ((ih.2 j b h).1 hb), fun hb => ⟨List.mem_cons_of_mem _ ((ih.2 j b h).2 hb).1, List.mem_cons_of_mem _ ((ih.2 j b h).2 hb).2⟩⟩⟩
  | @brc _ _ x y ts _ _ ih => exact ⟨ih.1, fun j b h => ⟨fun hb => List.mem_cons_of_mem _ ((ih.2 j b h).1 hb), fun hb => ⟨List.mem_cons_of_mem _ ((ih.2 j b h).2 hb).1, List.mem_cons_of_mem _ ((ih.2 j b h).2 hb).2⟩⟩⟩
  | @pos k k' ts hts ih =>
    have hle := hts.le
    have e : psOf (Tk.pos k :: ts) = true :: psOf ts := rfl
    rw [e]
    refine ⟨by rw [List.length_cons, ih.1]; omega, fun j b h => ?_⟩
    cases j with
    | zero =>
      simp only [List.getElem?_cons_zero, Option.some.injEq] at h
      subst h
      exact ⟨fun _ => List.mem_cons_self, fun hb => by cases hb⟩
    | succ j =>
      have := ih.2 j b (by simpa using h)
      rw [show k + 1 + j = k + (j + 1) by omega] at this
      exact ⟨fun hb => List.mem_cons_of_mem _ (this.1 hb), fun hb => ⟨List.mem_cons_of_mem _ (this.2 hb).1, List.mem_cons_of_mem _ (this.2 hb).2⟩⟩
  | @cap k k1 k' inner ts hi _ hts ih1 ih2 =>
    have hle1 := hi.le
    have hle2 := hts.le
    have e : psOf (Tk.opn k :: (inner ++ Tk.clo k :: ts)) = false :: (psOf inner ++ psOf ts) := by
      show false :: psOf (inner ++ Tk.clo k :: ts) = _
      rw [psOf_app]; rfl
    rw [e]
    refine ⟨by rw [List.length_cons, List.length_append, ih1.1, ih2.1]; omega, fun j b h => ?_⟩
    cases j with
    | zero =>
      simp only [List.getElem?_cons_zero, Option.some.injEq] at h
      subst h
      exact ⟨fun hb => (by cases hb), fun _ => ⟨List.mem_cons_self, by simp⟩⟩
    | succ j =>
      simp only [List.getElem?_cons_succ] at h
      rcases Nat.lt_or_ge j (psOf inner).length with hj | hj
      · rw [List.getElem?_append_left hj] at h
        have := ih1.2 j b h
        rw [show k + 1 + j = k + (j + 1) by omega] at this
        exact ⟨fun hb => by have := this.1 hb; simp [this], fun hb => by have := this.2 hb; simp [this.1, this.2]⟩
      · rw [List.getElem?_append_right hj] at h
        have := ih2.2 (j - (psOf inner).length) b h
        rw [ih1.1] at this
        rw [ih1.1] at hj
        rw [show k1 + (j - (k1 - (k + 1))) = k + (j + 1) by omega] at this
        exact ⟨fun hb => by have := this.1 hb; simp [this], fun hb => by have := this.2 hb; simp [this.1, this.2]⟩
/-- The depth that a pattern needs. -/
theorem dep_le (L : Nat) : ∀ ts : List Tk, dep L ts ≤ (L + 2) * unb ts + ts.length + 2
  | [] => by simp [dep]
  | .cls c q :: ts => by
    have ih := dep_le L ts
    have eu : unb (.cls c q :: ts) = (if q = 42 ∨ q = 43 ∨ q = 45 then 1 else 0) + unb ts := by
      unfold unb
      rw [List.countP_cons]
      by_cases h : q = 42 ∨ q = 43 ∨ q = 45
      · rw [if_pos h, if_pos (by simp; omega)]; omega
      · rw [if_neg h, if_neg (by simp; omega)]; omega
    rw [eu, List.length_cons]
    unfold dep
    by_cases h1 : q = 42 ∨ q = 43
    · rw [if_pos h1, if_pos (by omega), Nat.mul_add]; omega
    · rw [if_neg h1]
      by_cases h2 : q = 42 ∨ q = 43 ∨ q = 45
      · rw [if_pos h2, Nat.mul_add]; omega
      · rw [if_neg h2, Nat.zero_add]; omega
  | .opn n :: ts => by have ih := dep_le L ts; have e : unb (.opn n :: ts) = unb ts := rfl; rw [e, List.length_cons]; unfold dep; omega
  | .clo n :: ts => by have ih := dep_le L ts; have e : unb (.clo n :: ts) = unb ts := rfl; rw [e, List.length_cons]; unfold dep; omega
  | .pos n :: ts => by have ih := dep_le L ts; have e : unb (.pos n :: ts) = unb ts := rfl; rw [e, List.length_cons]; unfold dep; omega
  | .ref n :: ts => by have ih := dep_le L ts; have e : unb (.ref n :: ts) = unb ts := rfl; rw [e, List.length_cons]; unfold dep; omega
  | .brc x y :: ts => by have ih := dep_le L ts; have e : unb (.brc x y :: ts) = unb ts := rfl; rw [e, List.length_cons]; unfold dep; omega
theorem emit_len : ∀ (ts : List Tk) (p : Nat), (emit p ts).length ≤ 3 * ts.length
  | [], p => by simp [emit]
  | t :: ts, p => by
    have ih := emit_len ts (p + (codeOf p t).length)
    have hc : (codeOf p t).length ≤ 3 := by
      cases t <;> simp only [codeOf] <;> (repeat' split) <;> simp
    simp only [emit, List.length_append, List.length_cons]
    omega
/-- The slots of a program's captures. -/
theorem emit_slots {nc : Nat} : ∀ (ts : List Tk) (X : Cx) (p : Nat) (i : Ins), Lin nc X ts → i ∈ emit p ts → (∀ n, i = .save n ∨ i = .psave n → n ≤ 2 * nc + 1)
  | [], X, p, i, h, hi => by simp [emit] at hi
  | t :: ts, X, p, i, h, hi => by
    rw [emit, List.mem_append] at hi
    intro n hn
    cases t with
    | cls k q =>
      rcases hi with hi | hi
      · simp only [codeOf] at hi
        exfalso
        revert hi
        repeat' split
        all_goals (intro hi; simp at hi; rcases hn with rfl | rfl <;> simp at hi)
      · exact emit_slots ts X _ i h.2 hi n hn
    | opn m =>
      rcases hi with hi | hi
      · simp [codeOf] at hi; subst hi; have := h.2.1; rcases hn with hn | hn <;> (cases hn; try omega)
      · exact emit_slots ts _ _ i h.2.2.2.2 hi n hn
    | clo m =>
      rcases hi with hi | hi
      · simp [codeOf] at hi; subst hi; have := h.2.1; rcases hn with hn | hn <;> (cases hn; try omega)
      · exact emit_slots ts _ _ i h.2.2.2.2.2 hi n hn
    | pos m =>
      rcases hi with hi | hi
      · simp [codeOf] at hi; subst hi; have := h.2.1; rcases hn with hn | hn <;> (cases hn; try omega)
      · exact emit_slots ts _ _ i h.2.2.2.2.2 hi n hn
    | ref m =>
      rcases hi with hi | hi
      · simp [codeOf] at hi; subst hi; rcases hn with hn | hn <;> cases hn
      · exact emit_slots ts X _ i h.2.2 hi n hn
    | brc x y =>
      rcases hi with hi | hi
      · simp [codeOf] at hi; subst hi; rcases hn with hn | hn <;> cases hn
      · exact emit_slots ts X _ i h hi n hn


/-- The parser over a row of tokens. -/
theorem ts_run2 {zs : List Int} {k k' : Nat} {ts : List Tk} (h : TS k k' ts) : ∃ ps, (∀ I : List Ins, CRun ps I (2 * k) (I ++ emit I.length ts) (2 * k')) ∧ ∀ (c : Nat) (top q : Bool) (acc : List Pt) (r : PR), At zs c (txts ts) → PRun zs top (c + (txts ts).length) (acc ++ ps) q r → PRun zs top c acc q r := by
  induction h with
  | nil => exact ⟨[], fun I => by simpa [emit] using CRun.nil, fun c top q acc r _ hr => by simpa [txts] using hr⟩
  | @cls _ _ c q ts hc hq _ ih =>
    obtain ⟨ps, hp, ih⟩ := ih
    by_cases h0 : q = 0
    · subst h0
      refine ⟨_, fun I => .one (by have h := hp (I ++ [.chr (clOf c)]); simpa [emit, codeOf] using h), fun i top fl acc r ha hr => ?_⟩
      have e : txts (Tk.cls c 0 :: ts) = c.txt ++ txts ts := by simp [txts, Tk.txt, qtxt]
      rw [e] at ha hr
      refine one_run hc ha.app.1 (ih _ _ _ _ _ ha.app.2 ?_)
      rw [List.length_append, ← Nat.add_assoc] at hr
      simpa using hr
    · have hq4 : q = 42 ∨ q = 43 ∨ q = 45 ∨ q = 63 := by
        simp only [quants, List.mem_cons, List.not_mem_nil, or_false] at hq; omega
      refine ⟨.rep q (clOf c) :: ps, fun I => ?_, fun i top fl acc r ha hr => ?_⟩
      · rcases hq4 with rfl | rfl | rfl | rfl
        · exact .star (by have h := hp (I ++ [.split (I.length + 1) (I.length + 3), .chr (clOf c), .jmp I.length]); simpa [emit, codeOf] using h)
        · exact .plus (by have h := hp (I ++ [.chr (clOf c), .split I.length (I.length + 2)]); simpa [emit, codeOf] using h)
        · exact .minus (by have h := hp (I ++ [.split (I.length + 3) (I.length + 1), .chr (clOf c), .jmp I.length]); simpa [emit, codeOf] using h)
        · exact .opt (by have h := hp (I ++ [.split (I.length + 1) (I.length + 2), .chr (clOf c)]); simpa [emit, codeOf] using h)
      have e : txts (Tk.cls c q :: ts) = c.txt ++ (q :: txts ts) := by simp [txts, Tk.txt, qtxt, h0]
      rw [e] at ha hr
      have hqc := ha.app.2.chr
      refine one_run hc ha.app.1 (.quant (by rw [hqc]; exact hq4) (ih _ _ _ _ _ ha.app.2.tail ?_))
      rw [hqc]
      rw [List.length_append, List.length_cons, ← Nat.add_assoc] at hr
      simpa [Nat.add_assoc, Nat.add_comm, Nat.add_left_comm] using hr
  | @pos kp _ ts _ ih =>
    obtain ⟨ps, hp, ih⟩ := ih
    refine ⟨_, fun I => .pos (by have h := hp (I ++ [.psave (2 * kp)]); simpa [emit, codeOf, Nat.mul_add] using h), fun i top fl acc r ha hr => ?_⟩
    have ha' : At zs i (40 :: 41 :: txts ts) := ha
    refine .posc ha'.chr ha'.tail.chr (ih _ _ _ _ _ ha'.tail.tail ?_)
    have e : (txts (Tk.pos kp :: ts)).length = 2 + (txts ts).length := by simp [txts, Tk.txt]; omega
    rw [e, ← Nat.add_assoc] at hr
    simpa using hr
  | @cap k0 k1 k2 inner ts hi hne _ ih1 ih2 =>
    obtain ⟨l, hl, ih1⟩ := ih1
    obtain ⟨ps, hp, ih2⟩ := ih2
    refine ⟨_, fun I => .cap (I1 := I ++ [Ins.save (2 * k0)] ++ emit (I ++ [Ins.save (2 * k0)]).length inner) (k1 := 2 * k1) (by have h := hl (I ++ [Ins.save (2 * k0)]); simpa [Nat.mul_add] using h) (by have h := hp (I ++ [Ins.save (2 * k0)] ++ emit (I ++ [Ins.save (2 * k0)]).length inner ++ [Ins.save (2 * k0 + 1)]); simpa [emit, codeOf, emit_app, Nat.add_assoc, Nat.add_comm, Nat.add_left_comm] using h), fun i top fl acc r ha hr => ?_⟩
    have e : txts (Tk.opn k0 :: (inner ++ Tk.clo k0 :: ts)) = 40 :: (txts inner ++ (41 :: txts ts)) := by simp [txts, Tk.txt]
    rw [e] at ha hr
    have h41 := ha.tail.app.2.chr
    obtain ⟨z, rr, ez, hz⟩ := ts_first hi hne
    have hz1 : chr zs (i + 1) = z := At.chr (l := rr) (by rw [← ez]; exact ha.tail.app.1)
    refine .capt ha.chr (by omega) (ih1 _ _ _ _ _ ha.tail.app.1 (.close h41)) h41 (ih2 _ _ _ _ _ ha.tail.app.2.tail ?_)
    simp only [List.length_cons, List.length_append] at hr
    simpa [Nat.add_assoc, Nat.add_comm, Nat.add_left_comm] using hr
  | @ref _ _ n ts h1 h9 _ ih =>
    obtain ⟨ps, hp, ih⟩ := ih
    refine ⟨_, fun I => .num (by have h := hp (I ++ [.num (n : Int)]); simpa [emit, codeOf] using h), fun i top fl acc r ha hr => ?_⟩
    have ha' : At zs i (37 :: (48 + (n : Int)) :: txts ts) := ha
    have h2 := ha'.tail.chr
    refine .num ha'.chr (by omega) (by omega) (ih _ _ _ _ _ ha'.tail.tail ?_)
    have e : (txts (Tk.ref n :: ts)).length = 2 + (txts ts).length := by simp [txts, Tk.txt]; omega
    rw [e, ← Nat.add_assoc] at hr
    rw [h2, show 48 + (n : Int) - 48 = n by omega]
    simpa using hr
  | @brc _ _ x y ts hx _ ih =>
    obtain ⟨ps, hp, ih⟩ := ih
    refine ⟨_, fun I => .brace (by have h := hp (I ++ [.brace x y]); simpa [emit, codeOf] using h), fun i top fl acc r ha hr => ?_⟩
    have ha' : At zs i (37 :: 98 :: x :: y :: txts ts) := ha
    have hl := ha'.tail.tail.tail.lt
    have h2 := ha'.tail.tail.chr
    have h3 := ha'.tail.tail.tail.chr
    refine .brace ha'.chr ha'.tail.chr ?_
    rw [show min (i + 4) (zs.length + 1) = i + 4 by omega, show i + 2 = i + 1 + 1 from rfl, show i + 3 = i + 1 + 1 + 1 from rfl, h2, h3]
    refine ih _ _ _ _ _ ha'.tail.tail.tail.tail ?_
    have e : (txts (Tk.brc x y :: ts)).length = 4 + (txts ts).length := by simp [txts, Tk.txt]; omega
    rw [e, ← Nat.add_assoc] at hr
    simpa using hr
/-- A whole pattern's text: how the parser reads it, what the compiler makes of it. -/
theorem whole_ptop {ts : List Tk} {nc : Nat} (an tl : Bool) (hts : TS 1 (nc + 1) ts) (hne : 0 < ((if an then [94] else []) ++ txts ts ++ (if tl then [36] else [])).length) :
    ∃ ps cf, PTop ((if an then [94] else []) ++ txts ts ++ (if tl then [36] else [])) true 0 an (.ok ps tl cf) ∧ CRun ps [.save 0] 2 (.save 0 :: emit 1 ts) (2 * (nc + 1)) := by
  obtain ⟨ps, hcr, hrun⟩ := ts_run2 (zs := (if an then [94] else []) ++ txts ts ++ (if tl then [36] else [])) hts
  have hc := hcr [.save 0]
  refine ⟨ps, ((if an then [94] else []) ++ txts ts ++ (if tl then [36] else [])).length + 1, ?_, hc⟩
  generalize hz : (if an then [94] else []) ++ txts ts ++ (if tl then [36] else []) = zs at *
  have hend : ∀ c, c + (if tl then ([36] : List Int) else []).length = zs.length → At zs c (if tl then [36] else []) → PRun zs true c ps false (.ok ps tl (zs.length + 1)) := by
    intro c hcl ha
    cases tl with
    | false => exact .fin (by simp at hcl; omega)
    | true =>
      simp only [if_true, List.length_cons, List.length_nil] at hcl
      exact .tail (At.chr (l := []) ha) (by omega) (.fin (by omega))
  cases an with
  | true =>
    have h : At zs 0 (94 :: (txts ts ++ (if tl then [36] else []))) := ⟨[], by rw [← hz]; simp⟩
    refine .inl ⟨rfl, h.chr, rfl, hrun _ _ _ _ _ h.tail.app.1 ?_⟩
    rw [List.nil_append]
    exact hend _ (by rw [← hz]; simp; omega) h.tail.app.2
  | false =>
    have h : At zs 0 (txts ts ++ (if tl then [36] else [])) := ⟨[], by rw [← hz]; simp⟩
    refine .inr ⟨fun _ => ?_, rfl, hrun _ _ _ _ _ h.app.1 (by rw [List.nil_append]; exact hend _ (by rw [← hz]; simp) h.app.2)⟩
    · have : chr zs 0 ≠ 94 := by
        by_cases hn : ts = []
        · subst hn
          cases tl with
          | false => rw [← hz] at hne; simp [txts] at hne
          | true =>
            have h' : At zs 0 [36] := h
            rw [At.chr (l := []) h']; omega
        · obtain ⟨z, rr, ez, hz1, hz2⟩ := ts_first hts hn
          have h' := h.app.1
          rw [ez] at h'
          rw [h'.chr]; exact hz1
      simpa using this


/-- The machine's words tell the same as the reference's match. -/
def MEq (us : List Int) (m : Mt) : Prop :=
  us.length = m.1.length ∧ m.2.length = m.1.length ∧ ∀ j, j < us.length → us.getD j 0 / 2 = ((m.1.getD j 0 : Nat) : Int) ∧ (us.getD j 0 % 2 == 1) = m.2.getD j false
theorem capsTo_get (ps : List Bool) (st : St) : ∀ (K k : Nat), k < K → (capsTo ps st K)[2 * k]? = some (st.1.getD (k + 1) 0) ∧ (capsTo ps st K)[2 * k + 1]? = some (if ps.getD (k + 1) false then st.1.getD (k + 1) 0 else st.2.getD (k + 1) 0)
  | 0, k, h => by omega
  | K + 1, k, h => by
    have hl := capsTo_len ps st K
    unfold capsTo
    rcases Nat.lt_or_ge k K with hk | hk
    · have ih := capsTo_get ps st K k hk
      rw [List.getElem?_append_left (by omega), List.getElem?_append_left (by omega)]
      exact ih
    · obtain rfl : k = K := by omega
      rw [List.getElem?_append_right (by omega), List.getElem?_append_right (by omega), hl, Nat.sub_self, show 2 * k + 1 - 2 * k = 1 by omega]
      split <;> exact ⟨rfl, rfl⟩
theorem flagsTo_get (ps : List Bool) : ∀ (K k : Nat), k < K → (flagsTo ps K)[2 * k]? = some (ps.getD (k + 1) false) ∧ (flagsTo ps K)[2 * k + 1]? = some (ps.getD (k + 1) false)
  | 0, k, h => by omega
  | K + 1, k, h => by
    have hl := flagsTo_len ps K
    unfold flagsTo
    rcases Nat.lt_or_ge k K with hk | hk
    · have ih := flagsTo_get ps K k hk
      rw [List.getElem?_append_left (by omega), List.getElem?_append_left (by omega)]
      exact ih
    · obtain rfl : k = K := by omega
      rw [List.getElem?_append_right (by omega), List.getElem?_append_right (by omega), hl, Nat.sub_self, show 2 * k + 1 - 2 * k = 1 by omega]
      cases h : ps.getD (k + 1) false <;> simp
theorem getD_of {α : Type} {l : List α} {i : Nat} {v d : α} (h : l[i]? = some v) : l.getD i d = v := by rw [List.getD_eq_getElem?_getD, h]; rfl
theorem capW_half {v : Nat} (h : v < 2147483648) : capW (v : Int) / 2 = (v : Int) := by rw [capW_val]; omega
theorem posW_half {v : Nat} (h : v < 2147483648) : posW (v : Int) / 2 = (v : Int) := by rw [posW_val]; omega
/-- The words at the end. -/
theorem meq_of {nc sp t : Nat} {ts : List Tk} {st : St} {us : List Int} {L : Nat} (hts : TS 1 (nc + 1) ts) (hL : L ≤ 1048576) (hsp : sp ≤ L) (ht : t ≤ L) (ho : Ord nc (ts.foldl Cx.adv ⟨[], [], []⟩) t st) (hp : ∀ n, n ∈ (ts.foldl Cx.adv ⟨[], [], []⟩).p → st.1.getD n 0 ≤ L + 1) (ha : AgV nc sp (ts.foldl Cx.adv ⟨[], [], []⟩) st us) (h1 : 1 < us.length) (hu : us.getD 1 0 = capW (t : Int)) :
    MEq us (mtOf nc (false :: psOf ts) sp t st) := by
  have hps := ps_ts hts
  have hadv := adv_fold ts ⟨[], [], []⟩
  have hb : ∀ k, k < nc → ∃ b, (psOf ts)[k]? = some b := fun k hk => ⟨_, List.getElem?_eq_getElem (by rw [hps.1]; omega)⟩
  have hslots : ∀ k, k < nc → 2 * (k + 1) + 1 < us.length ∧ (∀ b, (psOf ts)[k]? = some b → us.getD (2 * (k + 1)) 0 / 2 = ((st.1.getD (k + 1) 0 : Nat) : Int) ∧ (us.getD (2 * (k + 1)) 0 % 2 == 1) = b ∧ us.getD (2 * (k + 1) + 1) 0 / 2 = ((if b then st.1.getD (k + 1) 0 else st.2.getD (k + 1) 0 : Nat) : Int) ∧ (us.getD (2 * (k + 1) + 1) 0 % 2 == 1) = b) := by
    intro k hk
    obtain ⟨b, hbk⟩ := hb k hk
    have hm := hps.2 k b hbk
    rw [Nat.add_comm 1 k] at hm
    cases b with
    | true =>
      have hin := hadv.2.1 (k + 1) (.inr (hm.1 rfl))
      have hw := ha.p (k + 1) hin
      have hv := hp (k + 1) hin
      refine ⟨hw.2.1, fun b' hb' => ?_⟩
      rw [hbk] at hb'
      injection hb' with hb'
      subst hb'
      rw [hw.2.2.1, hw.2.2.2]
      exact ⟨posW_half (by omega), posW_flag _, posW_half (by omega), posW_flag _⟩
    | false =>
      have hin1 := hadv.2.2 (k + 1) (.inr (hm.2 rfl).1)
      have hin2 := hadv.1 (k + 1) (.inr (hm.2 rfl).2)
      have hw1 := ha.o (k + 1) hin1
      have hw2 := ha.c (k + 1) hin2
      have ho1 := ho.o (k + 1) hin1
      have ho2 := ho.c (k + 1) hin2
      refine ⟨hw2.2.1, fun b' hb' => ?_⟩
      rw [hbk] at hb'
      injection hb' with hb'
      subst hb'
      rw [hw1.2.2, hw2.2.2]
      exact ⟨capW_half (by omega), capW_flag _, capW_half (by omega), capW_flag _⟩
  have hlen : us.length = 2 * nc + 2 := by
    have h2 := ha.len
    rcases Nat.eq_zero_or_pos nc with h0 | h0
    · omega
    · have := (hslots (nc - 1) (by omega)).1
      omega
  have hl1 : (mtOf nc (false :: psOf ts) sp t st).1.length = 2 * nc + 2 := by simp [mtOf, capsTo_len]
  have hl2 : (mtOf nc (false :: psOf ts) sp t st).2.length = 2 * nc + 2 := by simp [mtOf, flagsTo_len]
  refine ⟨by rw [hl1, hlen], by rw [hl1, hl2], fun j hj => ?_⟩
  rcases Nat.lt_or_ge j 2 with hj2 | hj2
  · rcases (show j = 0 ∨ j = 1 by omega) with rfl | rfl
    · rw [ha.z.2]
      exact ⟨capW_half (by omega), capW_flag _⟩
    · rw [hu]
      exact ⟨capW_half (by omega), capW_flag _⟩
  · obtain ⟨k, hk, hjk⟩ : ∃ k, k < nc ∧ (j = 2 * (k + 1) ∨ j = 2 * (k + 1) + 1) := ⟨j / 2 - 1, by omega, by omega⟩
    obtain ⟨b, hbk⟩ := hb k hk
    have hs := (hslots k hk).2 b hbk
    have hg := capsTo_get (false :: psOf ts) st nc k hk
    have hf := flagsTo_get (false :: psOf ts) nc k hk
    have hpb : (false :: psOf ts).getD (k + 1) false = b := getD_of (by simpa using hbk)
    rw [hpb] at hg hf
    have e1 : (mtOf nc (false :: psOf ts) sp t st).1 = [sp, t] ++ capsTo (false :: psOf ts) st nc := rfl
    have e2 : (mtOf nc (false :: psOf ts) sp t st).2 = [false, false] ++ flagsTo (false :: psOf ts) nc := rfl
    rw [e1, e2]
    rcases hjk with rfl | rfl
    · have a1 : ([sp, t] ++ capsTo (false :: psOf ts) st nc).getD (2 * (k + 1)) 0 = st.1.getD (k + 1) 0 := getD_of (by rw [List.getElem?_append_right (by simp; omega), ← hg.1]; congr 1)
      have a2 : ([false, false] ++ flagsTo (false :: psOf ts) nc).getD (2 * (k + 1)) false = b := getD_of (by rw [List.getElem?_append_right (by simp; omega), ← hf.1]; congr 1)
      rw [a1, a2]
      exact ⟨hs.1, hs.2.1⟩
    · have a1 : ([sp, t] ++ capsTo (false :: psOf ts) st nc).getD (2 * (k + 1) + 1) 0 = (if b then st.1.getD (k + 1) 0 else st.2.getD (k + 1) 0) := getD_of (by rw [List.getElem?_append_right (by simp; omega), ← hg.2]; congr 1)
      have a2 : ([false, false] ++ flagsTo (false :: psOf ts) nc).getD (2 * (k + 1) + 1) false = b := getD_of (by rw [List.getElem?_append_right (by simp; omega), ← hf.2]; congr 1)
      rw [a1, a2]
      exact ⟨hs.2.2.1, hs.2.2.2⟩
/-- What a position capture holds. -/
theorem mt_pos {src : List Int} {tl : Bool} {nc : Nat} : ∀ (ts : List Tk) (X : Cx) (s : Nat) (st st' : St) (t : Nat), Lin nc X ts → st.1.length = nc + 1 → (∀ n, n ∈ X.p → st.1.getD n 0 ≤ src.length + 1) → s ≤ src.length → mt src tl ts s st = (some t, st') → ∀ n, n ∈ (ts.foldl Cx.adv X).p → st'.1.getD n 0 ≤ src.length + 1 := by
  intro ts
  induction ts with
  | nil =>
    intro X s st st' t hl h1 hp hs h n hn
    unfold mt at h
    split at h
    · cases h
    · injection h with h h2; subst h2; exact hp n hn
  | cons tk ts ih =>
    intro X s st st' t hl h1 hp hs h n hn
    have att_pos : ∀ (f : Nat → St → Rs) (nn : Nat), (∀ i, i ≤ nn → ∀ (a : St), a.1.length = nc + 1 → (∀ n, n ∈ X.p → a.1.getD n 0 ≤ src.length + 1) → (∀ (r : Nat) (b : St), f i a = (some r, b) → b.1.getD n 0 ≤ src.length + 1) ∧ (f i a).2.1.length = nc + 1 ∧ (∀ n, n ∈ X.p → (f i a).2.1.getD n 0 ≤ src.length + 1)) →
        ∀ (j : Nat) (a : St), a.1.length = nc + 1 → (∀ n, n ∈ X.p → a.1.getD n 0 ≤ src.length + 1) → (∀ (r : Nat) (b : St), att f nn j a = (some r, b) → b.1.getD n 0 ≤ src.length + 1) ∧ (att f nn j a).2.1.length = nc + 1 ∧ (∀ n, n ∈ X.p → (att f nn j a).2.1.getD n 0 ≤ src.length + 1) := by
      intro f nn hf j
      induction j with
      | zero => intro a ha hpa; exact hf nn (Nat.le_refl _) a ha hpa
      | succ j ihj =>
        intro a ha hpa
        have h := ihj a ha hpa
        unfold att
        generalize att f nn j a = m at h ⊢
        obtain ⟨_ | r0, b0⟩ := m
        · exact hf _ (Nat.sub_le _ _) b0 h.2.1 h.2.2
        · exact h
    have upw_pos : ∀ (f : Nat → St → Rs) (one : Nat → Bool), (∀ i, i ≤ src.length → ∀ (a : St), a.1.length = nc + 1 → (∀ n, n ∈ X.p → a.1.getD n 0 ≤ src.length + 1) → (∀ (r : Nat) (b : St), f i a = (some r, b) → b.1.getD n 0 ≤ src.length + 1) ∧ (f i a).2.1.length = nc + 1 ∧ (∀ n, n ∈ X.p → (f i a).2.1.getD n 0 ≤ src.length + 1)) →
        ∀ (k s : Nat) (a : St), s + k ≤ src.length → a.1.length = nc + 1 → (∀ n, n ∈ X.p → a.1.getD n 0 ≤ src.length + 1) → ∀ (r : Nat) (b : St), upw f one k s a = (some r, b) → b.1.getD n 0 ≤ src.length + 1 := by
      intro f one hf k
      induction k with
      | zero => intro s a hs ha hpa; exact (hf s (by omega) a ha hpa).1
      | succ k ihk =>
        intro s a hs ha hpa r b hh
        have h := hf s (by omega) a ha hpa
        unfold upw at hh
        generalize f s a = m at h hh
        obtain ⟨_ | r0, b0⟩ := m
        · simp only at hh
          split at hh
          · exact ihk (s + 1) b0 (by omega) h.2.1 h.2.2 r b hh
          · cases hh
        · exact h.1 r b hh
    have sub : Lin nc X ts → (ts.foldl Cx.adv X).p = ((tk :: ts).foldl Cx.adv X).p → ∀ i, i ≤ src.length → ∀ (a : St), a.1.length = nc + 1 → (∀ n, n ∈ X.p → a.1.getD n 0 ≤ src.length + 1) → (∀ (r : Nat) (b : St), mt src tl ts i a = (some r, b) → b.1.getD n 0 ≤ src.length + 1) ∧ (mt src tl ts i a).2.1.length = nc + 1 ∧ (∀ n, n ∈ X.p → (mt src tl ts i a).2.1.getD n 0 ≤ src.length + 1) := by
      intro hl2 he i hi a ha hpa
      have hsm := mt_same (src := src) (tail := tl) ts X i a hl2
      exact ⟨fun r b hh => ih X i a b r hl2 ha hpa hi hh n (by rw [he]; exact hn), hsm.1.trans ha, fun n hn => by rw [hsm.2.2.1 n (.inr hn)]; exact hpa n hn⟩
    cases tk with
    | cls k q =>
      have hsub := sub hl.2 rfl
      rw [mt] at h
      by_cases hq : q = 42 ∨ q = 43
      · rw [if_pos hq] at h
        by_cases hr : runL (oneAt src k) (src.length - s) s < (if q = 43 then 1 else 0)
        · rw [if_pos hr] at h; cases h
        · rw [if_neg hr] at h
          have hnn := run_le (one := oneAt src k) (src.length - s) s
          exact (att_pos _ _ (fun i hi a ha hpa => hsub (s + i) (by omega) a ha hpa) _ st h1 hp).1 _ _ h
      · rw [if_neg hq] at h
        by_cases h45 : q = 45
        · rw [if_pos h45] at h
          exact upw_pos _ _ (fun i hi a ha hpa => hsub i hi a ha hpa) _ _ st (by omega) h1 hp _ _ h
        · rw [if_neg h45] at h
          by_cases h63 : q = 63
          · rw [if_pos h63] at h
            by_cases hone : oneAt src k s = true
            · rw [if_pos hone] at h
              have hlt := (oneAt_iff.1 hone).1
              have h2 := hsub (s + 1) (by omega) st h1 hp
              generalize mt src tl ts (s + 1) st = m at h h2
              obtain ⟨_ | r0, b0⟩ := m
              · exact (hsub s hs b0 h2.2.1 h2.2.2).1 _ _ h
              · exact h2.1 _ _ h
            · rw [if_neg hone] at h; exact (hsub s hs st h1 hp).1 _ _ h
          · rw [if_neg h63] at h
            by_cases hone : oneAt src k s = true
            · rw [if_pos hone] at h
              have hlt := (oneAt_iff.1 hone).1
              exact (hsub (s + 1) (by omega) st h1 hp).1 _ _ h
            · rw [if_neg hone] at h; cases h
    | opn m => rw [mt] at h; exact ih (X.adv (.opn m)) s _ st' t hl.2.2.2.2 (by simpa using h1) (fun x hx => by rw [nat_set_ne (fun e => hl.2.2.2.1 (by rw [e]; exact hx))]; exact hp x hx) hs h n hn
    | clo m => rw [mt] at h; exact ih (X.adv (.clo m)) s (st.1, st.2.set m s) st' t hl.2.2.2.2.2 h1 hp hs h n hn
    | pos m =>
      rw [mt] at h
      refine ih (X.adv (.pos m)) s _ st' t hl.2.2.2.2.2 (by simpa using h1) (fun x hx => ?_) hs h n hn
      rcases List.mem_cons.1 hx with rfl | hx
      · rw [nat_set_same (by rw [h1]; have := hl.2.1; omega)]; omega
      · rw [nat_set_ne (fun e => hl.2.2.2.1 (by rw [e]; exact hx))]; exact hp x hx
    | ref m =>
      rw [mt] at h
      split at h
      · rename_i hc; exact (sub hl.2.2 rfl _ hc.1 st h1 hp).1 _ _ h
      · cases h
    | brc x y =>
      rw [mt] at h
      split at h
      · cases hb : braceRun src x y (s + 1) 1 with
        | none => rw [hb] at h; cases h
        | some s' => rw [hb] at h; exact (sub hl rfl _ (brace_le _ _ _ _ rfl hb) st h1 hp).1 _ _ h
      · cases h
/-- How the machine's attempt answers to the reference's. -/
def ResEq (nc : Nat) (ps : List Bool) (sp : Nat) (r : Bool × Nat × List Int) : Rs → Prop
  | (none, _) => r.1 = false ∧ r.2.1 = sp
  | (some t, st) => r.1 = true ∧ r.2.1 = t ∧ MEq r.2.2 (mtOf nc ps sp t st)
/-- The machine at a place. -/
theorem top_run {src : List Int} {tl : Bool} {nc : Nat} {ts : List Tk} (hts : TS 1 (nc + 1) ts) (hrefs : RefsOk ts) (hby : ∀ z, z ∈ src → 0 ≤ z ∧ z ≤ 255) (hlen : src.length ≤ 1048576) {sp : Nat} (hsp : sp ≤ src.length) :
    ∃ n r, VRun src (progOf tl (.save 0 :: emit 1 ts)) (dep src.length ts + 1) n 0 sp [] r ∧ ResEq nc (false :: psOf ts) sp r (mt src tl ts sp (List.replicate (nc + 1) 0, List.replicate (nc + 1) 0)) ∧ r.2.1 ≤ src.length := by
  have hlin := ts_lin hts hrefs
  have hP : progOf tl (.save 0 :: emit 1 ts) = [.save 0] ++ (emit ([Ins.save 0]).length ts ++ fin tl) := by
    cases tl <;> simp [progOf, fin]
  have ho0 : Ord nc ⟨[], [], []⟩ sp (List.replicate (nc + 1) 0, List.replicate (nc + 1) 0) := ⟨by simp, by simp, (fun n hn => (by cases hn)), (fun n hn => (by cases hn))⟩
  have e1 : ((ext ([] : List Int) 1).set 0 (capW (sp : Int))) = [capW (sp : Int)] := rfl
  have ha0 : AgV nc sp ⟨[], [], []⟩ (List.replicate (nc + 1) 0, List.replicate (nc + 1) 0) ((ext ([] : List Int) 1).set 0 (capW (sp : Int))) := by
    rw [e1]
    exact ⟨⟨by simp, rfl⟩, (fun n hn => (by cases hn)), (fun n hn => (by cases hn)), (fun n hn => (by cases hn)), by simp⟩
  obtain ⟨n, r, hv, hr⟩ := vm_law (src := src) (tail := tl) (nc := nc) (s0 := sp) (Y := ts.foldl Cx.adv ⟨[], [], []⟩) (P := progOf tl (.save 0 :: emit 1 ts)) hby hlen ts ⟨[], [], []⟩ [.save 0] hP rfl hlin sp _ _ (dep src.length ts) (Nat.le_refl _) hsp ho0 ha0
  have h0 : (progOf tl (.save 0 :: emit 1 ts))[0]? = some (.save 0) := by rw [hP]; rfl
  have hpos := fun t st' h => mt_pos (src := src) (tl := tl) ts ⟨[], [], []⟩ sp (List.replicate (nc + 1) 0, List.replicate (nc + 1) 0) st' t hlin (by simp) (fun n hn => (by cases hn)) hsp h
  generalize mt src tl ts sp (List.replicate (nc + 1) 0, List.replicate (nc + 1) 0) = m at hr hpos ⊢
  obtain ⟨ok, s1, us1⟩ := r
  obtain ⟨_ | t, st'⟩ := m
  · obtain ⟨rfl, ha1, hl1⟩ := hr
    rw [e1] at hl1
    exact ⟨0, _, .saveNo h0 hv (by simp at hl1; omega), ⟨rfl, rfl⟩, hsp⟩
  · obtain ⟨rfl, rfl, ht, hoF, haF, h1, hu⟩ := hr
    exact ⟨0, _, .saveYes h0 hv, ⟨rfl, rfl, meq_of hts hlen hsp ht hoF (hpos _ _ rfl) haF h1 hu⟩, ht⟩
/-- Both searches tell the same. -/
theorem loops_eq {len nc : Nat} {ps : List Bool} {res : Nat → Bool × Nat × List Int} {rm : Nat → Rs} {limit : Int} {an : Bool} (hres : ∀ sp, sp ≤ len → ResEq nc ps sp (res sp) (rm sp)) : ∀ (m sp : Nat) (acc : List (List Int)) (acc' : List Mt), len + 1 - sp = m → acc.length = acc'.length → (∀ (i : Nat) (us : List Int) (mm : Mt), acc[i]? = some us → acc'[i]? = some mm → MEq us mm) →
    (findLoop len res limit an sp acc).length = (refLoop len nc ps rm limit an sp acc').length ∧ (∀ (i : Nat) (us : List Int) (mm : Mt), (findLoop len res limit an sp acc)[i]? = some us → (refLoop len nc ps rm limit an sp acc')[i]? = some mm → MEq us mm) := by
  intro m
  induction m using Nat.strongRecOn with
  | _ m ih =>
    intro sp acc acc' hm hl hacc
    by_cases hlt : len < sp
    · rw [find_end _ _ _ _ _ _ (by omega)]
      have : refLoop len nc ps rm limit an sp acc' = acc' := by unfold refLoop; rw [if_pos hlt]
      rw [this]
      exact ⟨hl, hacc⟩
    · have hr := hres sp (by omega)
      rw [find_step _ _ _ _ _ _ (by omega)]
      have e2 : refLoop len nc ps rm limit an sp acc' = (match rm sp with
        | (some e, st) => if ((acc'.length + 1 : Nat) : Int) = limit ∨ an = true then acc' ++ [mtOf nc ps sp e st] else refLoop len nc ps rm limit an (max (sp + 1) e) (acc' ++ [mtOf nc ps sp e st])
        | (none, _) => if (acc'.length : Int) = limit ∨ an = true then acc' else refLoop len nc ps rm limit an (sp + 1) acc') := by
        conv => lhs; unfold refLoop
        rw [if_neg hlt]
        generalize rm sp = q
        obtain ⟨_ | t, st⟩ := q <;> rfl
      rw [e2]
      generalize rm sp = q at hr ⊢
      obtain ⟨_ | t, st⟩ := q
      · rw [hr.1]
        simp only [Bool.false_eq_true, if_false]
        rw [hl]
        split
        · exact ⟨hl, hacc⟩
        · exact ih (len + 1 - (sp + 1)) (by omega) (sp + 1) acc acc' rfl hl hacc
      · obtain ⟨h1, h2, h3⟩ := hr
        rw [h1, h2]
        simp only [if_true]
        have hl2 : (acc ++ [(res sp).2.2]).length = (acc' ++ [mtOf nc ps sp t st]).length := by simp [hl]
        have hacc2 : ∀ (i : Nat) (us : List Int) (mm : Mt), (acc ++ [(res sp).2.2])[i]? = some us → (acc' ++ [mtOf nc ps sp t st])[i]? = some mm → MEq us mm := by
          intro i us mm hu hm2
          rcases Nat.lt_or_ge i acc.length with hi | hi
          · rw [List.getElem?_append_left hi] at hu
            rw [List.getElem?_append_left (by omega)] at hm2
            exact hacc i us mm hu hm2
          · rw [List.getElem?_append_right hi] at hu
            rw [List.getElem?_append_right (by omega)] at hm2
            have hi0 : i - acc.length = 0 := by have := (List.getElem?_eq_some_iff.1 hu).1; simp at this; omega
            rw [hi0] at hu
            rw [← hl, hi0] at hm2
            simp at hu hm2
            rw [← hu, ← hm2]
            exact h3
        have e3 : ((acc ++ [(res sp).2.2]).length : Int) = ((acc'.length + 1 : Nat) : Int) := by rw [hl2]; simp
        rw [e3]
        split
        · exact ⟨hl2, hacc2⟩
        · exact ih (len + 1 - max (sp + 1) t) (by omega) (max (sp + 1) t) _ _ rfl hl2 hacc2

end Go.Proofs.YtcfhhcjcnafcjaaFmt
