/-
  Which rows of tokens the decoder makes: brackets paired, captures numbered in order; what stays so when a token is added, a capture opened or closed. Plain laws; conditions as each states.
-/
import Derived.Test.YtcfhhcjcnafcjaaFmtBump
namespace Go.Proofs.YtcfhhcjcnafcjaaFmt
open Go.RowKit
set_option linter.unusedVariables false
set_option linter.unusedSimpArgs false

def quants : List Int := [0, 42, 43, 45, 63]
/-- A whole row of tokens: the captures in it bear the numbers from k to k' - 1. -/
inductive TS : Nat → Nat → List Tk → Prop
  | nil {k} : TS k k []
  | cls {k k' c q ts} : c.ok → q ∈ quants → TS k k' ts → TS k k' (.cls c q :: ts)
  | pos {k k' ts} : TS (k + 1) k' ts → TS k k' (.pos k :: ts)
  | cap {k k1 k' inner ts} : TS (k + 1) k1 inner → inner ≠ [] → TS k1 k' ts → TS k k' (.opn k :: (inner ++ .clo k :: ts))
  | ref {k k' n ts} : 1 ≤ n → n ≤ 9 → TS k k' ts → TS k k' (.ref n :: ts)
  | brc {k k' x y ts} : (x, y) ∈ brcs4 → TS k k' ts → TS k k' (.brc x y :: ts)
theorem TS.append {k k1 k' : Nat} {a b : List Tk} (h : TS k k1 a) (h2 : TS k1 k' b) : TS k k' (a ++ b) := by
  induction h with
  | nil => exact h2
  | cls hc hq _ ih => exact .cls hc hq (ih h2)
  | pos _ ih => exact .pos (ih h2)
  | cap hi hn _ ih1 ih2 =>
    have := TS.cap hi hn (ih2 h2)
    simpa using this
  | ref h1 h9 _ ih => exact .ref h1 h9 (ih h2)
  | brc hx _ ih => exact .brc hx (ih h2)
theorem TS.le {k k' : Nat} {a : List Tk} (h : TS k k' a) : k ≤ k' := by
  induction h with
  | nil => omega
  | cap _ _ _ ih1 ih2 => omega
  | _ => omega
/-- A row of tokens with captures open. -/
inductive OpenS : Nat → List Tk → List Nat → Prop
  | base {k ts} : TS 1 k ts → OpenS k ts []
  | opn {k k' ts op inner} : OpenS k ts op → TS (k + 1) k' inner → OpenS k' (ts ++ .opn k :: inner) (op ++ [k])
/-- .. and with the counts of what stands in each. -/
inductive DS : Nat → List Tk → List Nat → List Nat → Prop
  | base {k ts} : TS 1 k ts → DS k ts [] []
  | opn {k k' ts op inner ct c} : OpenS k ts op → ct.length = op.length → TS (k + 1) k' inner → (c = 0 ∨ inner ≠ []) → DS k' (ts ++ .opn k :: inner) (op ++ [k]) (ct ++ [c])
theorem DS.open {k : Nat} {ts : List Tk} {op ct : List Nat} (h : DS k ts op ct) : OpenS k ts op ∧ ct.length = op.length := by
  cases h with
  | base h => exact ⟨.base h, rfl⟩
  | opn h1 h2 h3 h4 => exact ⟨.opn h1 h3, by simp [h2]⟩
/-- Tokens added. -/
theorem DS.add {k k' : Nat} {ts item : List Tk} {op ct : List Nat} (h : DS k ts op ct) (hi : TS k k' item) (hn : item ≠ []) : DS k' (ts ++ item) op (bumpL ct) := by
  cases h with
  | base h => exact .base (h.append hi)
  | opn h1 h2 h3 h4 =>
    rw [bumpL_app, List.append_assoc, List.cons_append]
    exact .opn h1 h2 (h3.append hi) (.inr (by simp [hn]))
/-- A capture opened. -/
theorem DS.push {k : Nat} {ts : List Tk} {op ct : List Nat} (h : DS k ts op ct) : DS (k + 1) (ts ++ [.opn k]) (op ++ [k]) (bumpL ct ++ [0]) :=
  .opn h.open.1 (by rw [bumpL_len]; exact h.open.2) .nil (.inl rfl)
/-- A capture closed. -/
theorem DS.close {k n c : Nat} {ts : List Tk} {op ct : List Nat} (h : DS k ts (op ++ [n]) (ct ++ [c])) : DS k (ts ++ (if c = 0 then [.cls (.lit 97) 0] else []) ++ [.clo n]) op ct := by
  generalize ho : op ++ [n] = op1 at h
  generalize hc : ct ++ [c] = ct1 at h
  cases h with
  | base h => simp at ho
  | @opn k0 _ ts0 op0 inner ct0 c0 h1 h2 h3 h4 =>
    obtain ⟨rfl, e1⟩ := List.append_inj' ho rfl
    obtain ⟨rfl, e2⟩ := List.append_inj' hc rfl
    simp only [List.cons.injEq, and_true] at e1 e2
    subst e1 e2
    obtain ⟨inner', hi, hne, e⟩ : ∃ inner', TS (n + 1) k inner' ∧ inner' ≠ [] ∧ inner ++ (if c = 0 then [Tk.cls (.lit 97) 0] else []) = inner' := by
      refine ⟨_, ?_, ?_, rfl⟩
      · split
        · exact h3.append (.cls (by simp [CK.ok, lits13]) (by simp [quants]) .nil)
        · simpa using h3
      · rcases h4 with h4 | h4
        · rw [if_pos h4]; simp
        · simp [h4]
    have e' : ts0 ++ Tk.opn n :: inner ++ (if c = 0 then [Tk.cls (.lit 97) 0] else []) ++ [Tk.clo n] = ts0 ++ (Tk.opn n :: (inner' ++ Tk.clo n :: [])) := by
      rw [← e]; simp
    rw [e']
    have hcap : TS n k (Tk.opn n :: (inner' ++ Tk.clo n :: [])) := .cap hi hne .nil
    cases h1 with
    | base h =>
      have : ct = [] := List.length_eq_zero_iff.1 h2
      subst this
      exact .base (h.append hcap)
    | @opn k1 _ ts1 op1 inner1 g1 g2 =>
      rcases List.eq_nil_or_concat ct with rfl | ⟨ct2, x, rfl⟩
      · simp at h2
      · rw [List.concat_eq_append] at *
        rw [List.append_assoc, List.cons_append]
        exact .opn g1 (by simpa using h2) (g2.append hcap) (.inr (by simp))
/-- Which captures are positions, in order. -/
def psOf (ts : List Tk) : List Bool := ts.filterMap fun t => match t with
  | .opn _ => some false
  | .pos _ => some true
  | _ => none
theorem psOf_app (a b : List Tk) : psOf (a ++ b) = psOf a ++ psOf b := by simp [psOf]
/-- How many classes are repeated without bound. -/
def unb (ts : List Tk) : Nat := ts.countP fun t => match t with
  | .cls _ q => q == 42 || q == 43 || q == 45
  | _ => false
theorem unb_app (a b : List Tk) : unb (a ++ b) = unb a + unb b := by simp [unb]
/-- Each reference is to a capture that is closed before it. -/
def RefsOk (ts : List Tk) : Prop := ∀ (pre : List Tk) (n : Nat) (post : List Tk), ts = pre ++ .ref n :: post → .clo n ∈ pre
theorem RefsOk.nil : RefsOk [] := fun pre n post h => by simp at h
theorem RefsOk.snoc {ts : List Tk} {t : Tk} (h : RefsOk ts) (ht : ∀ n, t = .ref n → .clo n ∈ ts) : RefsOk (ts ++ [t]) := by
  intro pre n post e
  rcases List.eq_nil_or_concat post with rfl | ⟨post', x, rfl⟩
  · obtain ⟨rfl, e2⟩ := List.append_inj' e rfl
    simp only [List.cons.injEq, and_true] at e2
    exact ht n e2
  · rw [List.concat_eq_append, ← List.cons_append, ← List.append_assoc] at e
    obtain ⟨rfl, -⟩ := List.append_inj' e rfl
    exact h pre n post' rfl
theorem RefsOk.snoc' {ts : List Tk} {t : Tk} (h : RefsOk ts) (ht : ∀ n, t ≠ .ref n) : RefsOk (ts ++ [t]) := h.snoc (fun n e => absurd e (ht n))
/-- What the decoder's loop keeps, over what it has made. -/
structure DWf (an : Bool) (nc : Nat) (ts : List Tk) (txt : List Int) (ps : List Bool) (op ct cl : List Nat) (ub it : Nat) : Prop where
  ds : DS (nc + 1) ts op ct
  tx : txt = (if an then [94] else []) ++ txts ts
  psE : ps = false :: psOf ts
  nc12 : nc ≤ 12
  op3 : op.length ≤ 3
  cnt : ∀ x, x ∈ ct → x ≤ it
  clo : ∀ n, n ∈ cl → .clo n ∈ ts ∧ 1 ≤ n
  cll : cl.length + op.length ≤ nc
  refs : RefsOk ts
  ubE : ub = unb ts
  ub2 : ub ≤ 2
  opn : ∀ n, n ∈ op → 1 ≤ n ∧ n ≤ 12
  lts : ts.length + 2 * op.length ≤ 3 * it
  ltx : txt.length + 2 * op.length ≤ 1 + 16 * it
theorem bumpL_le {l : List Nat} {b : Nat} (h : ∀ x, x ∈ l → x ≤ b) : ∀ x, x ∈ bumpL l → x ≤ b + 1 := by
  rcases List.eq_nil_or_concat l with rfl | ⟨c, y, rfl⟩
  · intro x hx; cases hx
  · rw [List.concat_eq_append] at h ⊢
    rw [bumpL_app]
    intro x hx
    simp only [List.mem_append, List.mem_singleton] at hx h
    rcases hx with hx | rfl
    · have := h x (.inl hx); omega
    · have := h y (.inr rfl); omega
section
variable {an : Bool} {nc ub it : Nat} {ts : List Tk} {txt : List Int} {ps : List Bool} {op ct cl : List Nat}
theorem DWf.nil (an : Bool) : DWf an 0 [] (if an then [94] else []) [false] [] [] [] 0 0 :=
  ⟨.base .nil, by simp [txts], rfl, by omega, by simp, fun x hx => (by cases hx), fun n hn => (by cases hn), by simp, .nil, rfl, by omega, fun n hn => (by cases hn), by simp, by cases an <;> simp⟩
theorem DWf.ctl (h : DWf an nc ts txt ps op ct cl ub it) : ct.length = op.length := h.ds.open.2
theorem DWf.mono (h : DWf an nc ts txt ps op ct cl ub it) {it' : Nat} (hi : it ≤ it') : DWf an nc ts txt ps op ct cl ub it' :=
  { h with cnt := fun x hx => Nat.le_trans (h.cnt x hx) hi, lts := by have := h.lts; omega, ltx := by have := h.ltx; omega }
/-- A class, a reference, a balanced match. -/
theorem DWf.add (h : DWf an nc ts txt ps op ct cl ub it) {t : Tk} {ub' : Nat} {tt : List Int} (hts : TS (nc + 1) (nc + 1) [t]) (hps : psOf [t] = []) (hr : ∀ n, t = .ref n → n ∈ cl) (htt : tt = t.txt) (hl : t.txt.length ≤ 16) (hub : ub' = ub + unb [t]) (hu2 : ub' ≤ 2) :
    DWf an nc (ts ++ [t]) (txt ++ tt) ps op (bumpL ct) cl ub' (it + 1) where
  ds := h.ds.add hts (by simp)
  tx := by rw [h.tx, txts_app, txts_one, htt, List.append_assoc]
  psE := by rw [h.psE, psOf_app, hps, List.append_nil]
  nc12 := h.nc12
  op3 := h.op3
  cnt := bumpL_le h.cnt
  clo := fun n hn => ⟨by simp [(h.clo n hn).1], (h.clo n hn).2⟩
  cll := h.cll
  refs := h.refs.snoc (fun n e => (h.clo n (hr n e)).1)
  ubE := by rw [hub, unb_app, h.ubE]
  ub2 := hu2
  opn := h.opn
  lts := by have := h.lts; rw [List.length_append, List.length_singleton]; omega
  ltx := by have := h.ltx; rw [List.length_append, htt]; omega
theorem DWf.pos (h : DWf an nc ts txt ps op ct cl ub it) (hn : nc < 12) : DWf an (nc + 1) (ts ++ [.pos (nc + 1)]) (txt ++ [40, 41]) (ps ++ [true]) op (bumpL ct) cl ub (it + 1) where
  ds := h.ds.add (.pos .nil) (by simp)
  tx := by rw [h.tx, txts_app, txts_one, List.append_assoc]; rfl
  psE := by rw [h.psE, psOf_app]; rfl
  nc12 := by omega
  op3 := h.op3
  cnt := bumpL_le h.cnt
  clo := fun n hn => ⟨by simp [(h.clo n hn).1], (h.clo n hn).2⟩
  cll := by have := h.cll; omega
  refs := h.refs.snoc' (fun n e => by cases e)
  ubE := by rw [unb_app, h.ubE]; rfl
  ub2 := h.ub2
  opn := h.opn
  lts := by have := h.lts; rw [List.length_append, List.length_singleton]; omega
  ltx := by have := h.ltx; rw [List.length_append]; simp; omega
theorem DWf.opened (h : DWf an nc ts txt ps op ct cl ub it) (hn : nc < 12) (ho : op.length < 3) : DWf an (nc + 1) (ts ++ [.opn (nc + 1)]) (txt ++ [40]) (ps ++ [false]) (op ++ [nc + 1]) (bumpL ct ++ [0]) cl ub (it + 1) where
  ds := h.ds.push
  tx := by rw [h.tx, txts_app, txts_one, List.append_assoc]; rfl
  psE := by rw [h.psE, psOf_app]; rfl
  nc12 := by omega
  op3 := by simp; omega
  cnt := fun x hx => by
    simp only [List.mem_append, List.mem_singleton] at hx
    rcases hx with hx | rfl
    · exact bumpL_le h.cnt x hx
    · omega
  clo := fun n hn => ⟨by simp [(h.clo n hn).1], (h.clo n hn).2⟩
  cll := by have := h.cll; simp; omega
  refs := h.refs.snoc' (fun n e => by cases e)
  ubE := by rw [unb_app, h.ubE]; rfl
  ub2 := h.ub2
  opn := fun n hn2 => by
    simp only [List.mem_append, List.mem_singleton] at hn2
    rcases hn2 with hn2 | rfl
    · exact h.opn n hn2
    · omega
  lts := by have := h.lts; simp; omega
  ltx := by have := h.ltx; simp; omega
theorem DWf.closed {n c : Nat} (h : DWf an nc ts txt ps (op ++ [n]) (ct ++ [c]) cl ub it) : DWf an nc (ts ++ (if c = 0 then [.cls (.lit 97) 0] else []) ++ [.clo n]) (txt ++ (if c = 0 then [97] else []) ++ [41]) ps op ct (cl ++ [n]) ub it where
  ds := h.ds.close
  tx := by rw [h.tx]; by_cases hc : c = 0 <;> simp [hc, txts, Tk.txt, CK.txt, qtxt]
  psE := by rw [h.psE]; by_cases hc : c = 0 <;> simp [hc, psOf]
  nc12 := h.nc12
  op3 := by have := h.op3; simp at this; omega
  cnt := fun x hx => h.cnt x (by simp [hx])
  clo := fun m hm => by
    simp only [List.mem_append, List.mem_singleton] at hm
    rcases hm with hm | rfl
    · have := (h.clo m hm).1; exact ⟨by by_cases hc : c = 0 <;> simp [hc, this], (h.clo m hm).2⟩
    · exact ⟨by simp, (h.opn m (by simp)).1⟩
  cll := by have := h.cll; simp at this ⊢; omega
  refs := by
    by_cases hc : c = 0
    · rw [if_pos hc]; exact (h.refs.snoc' (fun n e => by cases e)).snoc' (fun n e => by cases e)
    · rw [if_neg hc, List.append_nil]; exact h.refs.snoc' (fun n e => by cases e)
  ubE := by rw [h.ubE]; by_cases hc : c = 0 <;> simp [hc, unb]
  ub2 := h.ub2
  opn := fun m hm => h.opn m (by simp [hm])
  lts := by have := h.lts; by_cases hc : c = 0 <;> simp [hc] at this ⊢ <;> omega
  ltx := by have := h.ltx; by_cases hc : c = 0 <;> simp [hc] at this ⊢ <;> omega
end
end Go.Proofs.YtcfhhcjcnafcjaaFmt
