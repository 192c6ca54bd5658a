/-
  What the pattern parser makes of a row of tokens' text, and of one with a defect behind it. Conditions as each statement says.
-/
import Derived.Test.YtcfhhcjcnafcjaaFmtWt
import Derived.Test.YtcfhhcjcnafcjaaFmtPat
import Derived.Test.YtcfhhcjcnafcjaaFmtPpDefs
namespace Go.Proofs.YtcfhhcjcnafcjaaFmt
open Go.RowKit
set_option linter.unusedVariables false
set_option linter.unusedSimpArgs false


/-- The bytes from the cursor c on begin with l. -/
def At (zs : List Int) (c : Nat) (l : List Int) : Prop := ∃ post, zs.drop c = l ++ post
theorem At.app {zs : List Int} {c : Nat} {a b : List Int} (h : At zs c (a ++ b)) : At zs c a ∧ At zs (c + a.length) b := by
  obtain ⟨post, h⟩ := h
  refine ⟨⟨b ++ post, by rw [h, List.append_assoc]⟩, post, ?_⟩
  rw [← List.drop_drop, h, List.append_assoc, List.drop_left]
theorem At.lt {zs : List Int} {c : Nat} {z : Int} {l : List Int} (h : At zs c (z :: l)) : c < zs.length := by
  obtain ⟨post, h⟩ := h
  rcases Nat.lt_or_ge c zs.length with h1 | h1
  · exact h1
  · rw [List.drop_eq_nil_of_le h1] at h; simp at h
theorem At.chr {zs : List Int} {c : Nat} {z : Int} {l : List Int} (h : At zs c (z :: l)) : chr zs c = z := by
  have hl := h.lt
  obtain ⟨post, h⟩ := h
  unfold Go.Proofs.YtcfhhcjcnafcjaaFmt.chr
  rw [if_pos hl]
  have h2 : (zs.drop c)[0]? = some z := by rw [h]; rfl
  rw [List.getElem?_drop] at h2
  simp only [Nat.add_zero] at h2
  rw [List.getD_eq_getElem?_getD, h2]; rfl
theorem At.tail {zs : List Int} {c : Nat} {z : Int} {l : List Int} (h : At zs c (z :: l)) : At zs (c + 1) l := (At.app (a := [z]) h).2
theorem At.le {zs : List Int} {c : Nat} {l : List Int} (h : At zs c l) (hc : c ≤ zs.length) : c + l.length ≤ zs.length := by
  obtain ⟨post, h⟩ := h
  have := congrArg List.length h
  simp at this
  omega
theorem at_zero (l post : List Int) : At (l ++ post) 0 l := ⟨post, rfl⟩

def elOf : SI → El
  | .chr z => .chr z
  | .rng a b => .rng (.chr a) (.chr b)
  | .esc z => .sgl z
def clOf : CK → Cl
  | .lit z => .el (.chr z)
  | .dot => .dot
  | .esc z => .el (.sgl z)
  | .set neg l => .set neg (l.map elOf)
/-- A row of tokens as items. -/
inductive PtsOf : List Tk → List Pt → Prop
  | nil : PtsOf [] []
  | cls0 {c ts ps} : PtsOf ts ps → PtsOf (.cls c 0 :: ts) (.one (clOf c) :: ps)
  | clsq {c q ts ps} : q ≠ 0 → PtsOf ts ps → PtsOf (.cls c q :: ts) (.rep q (clOf c) :: ps)
  | pos {k ts ps} : PtsOf ts ps → PtsOf (.pos k :: ts) (.pos :: ps)
  | cap {k inner l ts ps} : PtsOf inner l → PtsOf ts ps → PtsOf (.opn k :: (inner ++ .clo k :: ts)) (.cap l :: ps)
  | ref {n ts ps} : PtsOf ts ps → PtsOf (.ref n :: ts) (.num (n : Int) :: ps)
  | brc {x y ts ps} : PtsOf ts ps → PtsOf (.brc x y :: ts) (.brace x y :: ps)

theorem rangeUp_snoc (acc : List El) (a e : El) : rangeUp (acc ++ [a]) e = acc ++ [.rng a e] := by simp [rangeUp]
theorem setLoop_step {zs : List Int} {c : Nat} {z : Int} {acc : List El} {isr : Bool} (hz : chr zs c = z) (hl : c < zs.length) (h1 : z ≠ 93) (h2 : z ≠ 45) :
    setLoop zs c acc isr = setLoop zs (elem zs c).2 (if isr then rangeUp acc (elem zs c).1 else acc ++ [(elem zs c).1]) false := by
  conv => lhs; unfold setLoop
  rw [if_neg (by omega), if_neg (by rw [hz]; exact fun h => h1 h.1), if_neg (by rw [hz]; exact fun h => h2 h.1)]
/-- An item of a set. -/
theorem si_run {zs : List Int} {c : Nat} {i : SI} {acc : List El} (hi : i.ok) (h : At zs c i.txt) : setLoop zs c acc false = setLoop zs (c + i.txt.length) (acc ++ [elOf i]) false := by
  cases i with
  | chr z =>
    have h1 := h.chr
    have h2 := h.lt
    simp only [SI.ok, sets10, List.mem_cons, List.not_mem_nil, or_false] at hi
    rw [setLoop_step h1 h2 (by omega) (by omega)]
    simp [elem, h1, SI.txt, elOf, show z ≠ 37 by omega]
  | esc z =>
    have h1 := h.chr
    have h2 := h.lt
    have h3 := h.tail.chr
    rw [setLoop_step h1 h2 (by omega) (by omega)]
    simp [elem, h1, h3, SI.txt, elOf]
  | rng a b =>
    have h1 := h.chr
    have h2 := h.lt
    have h3 := h.tail.chr
    have h4 := h.tail.lt
    have h5 := h.tail.tail.chr
    have h6 := h.tail.tail.lt
    have hab : a ≠ 37 ∧ a ≠ 93 ∧ a ≠ 45 ∧ b ≠ 37 ∧ b ≠ 93 ∧ b ≠ 45 := by
      simp only [SI.ok, rngs6, List.mem_cons, Prod.mk.injEq, List.not_mem_nil, or_false] at hi
      omega
    rw [setLoop_step h1 h2 (by omega) (by omega)]
    have e1 : elem zs c = (.chr a, c + 1) := by unfold elem; rw [h1, if_neg (by omega)]
    simp only [e1, Bool.false_eq_true, if_false]
    conv => lhs; unfold setLoop
    rw [if_neg (by omega), if_neg (by rw [h3]; omega), if_pos ⟨h3, by simp⟩]
    rw [setLoop_step h5 h6 (by omega) (by omega)]
    have e2 : elem zs (c + 1 + 1) = (.chr b, c + 1 + 1 + 1) := by unfold elem; rw [h5, if_neg (by omega)]
    simp only [e2, if_true, rangeUp_snoc, SI.txt, elOf, List.length_cons, List.length_nil]
theorem sis_run {zs : List Int} : ∀ (l : List SI) {c : Nat} {acc : List El}, (∀ i, i ∈ l → i.ok) → acc ++ l.map elOf ≠ [] → At zs c (l.flatMap SI.txt ++ [93]) → setLoop zs c acc false = some (acc ++ l.map elOf, false, c + (l.flatMap SI.txt).length + 1)
  | [], c, acc, hi, hne, h => by
    have h1 := At.chr (l := []) h
    have h2 := At.lt (l := []) h
    unfold setLoop
    rw [if_neg (by omega), if_pos ⟨h1, by simpa using hne⟩]
    simp
  | i :: l, c, acc, hi, hne, h => by
    rw [List.flatMap_cons, List.append_assoc] at h
    rw [si_run (hi i (by simp)) h.app.1, sis_run l (fun j hj => hi j (by simp [hj])) (by simp) h.app.2]
    simp [List.flatMap_cons]
    omega
theorem not94_sis {l : List SI} (hl : l ≠ []) (hi : ∀ i, i ∈ l → i.ok) : ∃ z r, l.flatMap SI.txt ++ [93] = z :: r ∧ z ≠ 94 := by
  match l, hl with
  | i :: l, _ =>
    have h := hi i (by simp)
    cases i with
    | chr z => exact ⟨z, _, rfl, by simp only [SI.ok, sets10, List.mem_cons, List.not_mem_nil, or_false] at h; omega⟩
    | esc z => exact ⟨37, _, rfl, by omega⟩
    | rng a b => exact ⟨a, _, rfl, by simp only [SI.ok, rngs6, List.mem_cons, Prod.mk.injEq, List.not_mem_nil, or_false] at h; omega⟩
theorem set_txt (neg : Bool) (l : List SI) : (CK.set neg l).txt = 91 :: ((if neg then [94] else []) ++ (l.flatMap SI.txt ++ [93])) := by simp [CK.txt]
/-- A class. -/
theorem ck_run {zs : List Int} {c : Nat} {k : CK} (hk : k.ok) (h : At zs c k.txt) : parseCls zs c = some (clOf k, c + k.txt.length) := by
  cases k with
  | lit z =>
    have h1 := h.chr
    have h2 := h.lt
    simp only [CK.ok, lits13, List.mem_cons, List.not_mem_nil, or_false] at hk
    unfold parseCls
    rw [if_neg (by omega), if_neg (by omega), if_neg (by omega), if_neg (by omega), h1]
    rfl
  | dot =>
    have h1 := h.chr
    have h2 := h.lt
    unfold parseCls
    rw [if_neg (by omega), if_neg (by omega), if_pos h1]
    rfl
  | esc z =>
    have h1 := h.chr
    have h2 := h.lt
    unfold parseCls
    rw [if_neg (by omega), if_pos h1, h.tail.chr]
    rfl
  | set neg l =>
    obtain ⟨hl, h4, hi⟩ := hk
    rw [set_txt] at h
    have h1 := h.chr
    have h2 := h.lt
    have ht := h.tail
    unfold parseCls
    rw [if_neg (by omega), if_neg (by omega), if_neg (by omega), if_pos h1]
    unfold parseSet
    cases neg with
    | true =>
      have ht' : At zs (c + 1) (94 :: (l.flatMap SI.txt ++ [93])) := ht
      rw [if_pos ht'.chr, sis_run l hi (by simpa using hl) ht'.tail]
      simp [setFin, clOf, CK.txt]
      omega
    | false =>
      have ht' : At zs (c + 1) (l.flatMap SI.txt ++ [93]) := ht
      obtain ⟨z, r, e, hz⟩ := not94_sis hl hi
      have hz' : chr zs (c + 1) = z := At.chr (l := r) (by rw [← e]; exact ht')
      rw [if_neg (by omega), sis_run l hi (by simpa using hl) ht']
      simp [setFin, clOf, CK.txt]
      omega
/-- A class as an item. -/
theorem one_run {zs : List Int} {c : Nat} {k : CK} {top q : Bool} {acc : List Pt} {r : PR} (hk : k.ok) (h : At zs c k.txt) (hr : PRun zs top (c + k.txt.length) (acc ++ [.one (clOf k)]) q r) : PRun zs top c acc q r := by
  have hp := ck_run hk h
  cases k with
  | lit z =>
    have h1 := h.chr
    simp only [CK.ok, lits13, List.mem_cons, List.not_mem_nil, or_false] at hk
    refine .lit h.lt (fun y hy => ?_) (by rw [h1]; exact hr)
    simp only [List.mem_cons, List.not_mem_nil, or_false] at hy
    omega
  | dot => exact .cls (.inl h.chr) hp hr
  | esc z =>
    have h2 := h.tail.chr
    simp only [CK.ok, picks, List.mem_cons, List.not_mem_nil, or_false] at hk
    refine .esc h.chr (by omega) (by omega) (by rw [h2]; exact hr)
  | set neg l =>
    rw [set_txt] at h
    exact .cls (.inr (.inl h.chr)) hp hr
/-- The first byte of a row of tokens. -/
theorem ts_first {k k' : Nat} {ts : List Tk} (h : TS k k' ts) (hn : ts ≠ []) : ∃ z r, txts ts = z :: r ∧ z ≠ 94 ∧ z ≠ 41 := by
  cases h with
  | nil => exact absurd rfl hn
  | @cls _ _ c q ts hc hq _ =>
    cases c with
    | lit z => exact ⟨z, qtxt q ++ txts ts, rfl, by simp only [CK.ok, lits13, List.mem_cons, List.not_mem_nil, or_false] at hc; omega⟩
    | dot => exact ⟨46, qtxt q ++ txts ts, rfl, by omega⟩
    | esc z => exact ⟨37, z :: (qtxt q ++ txts ts), rfl, by omega⟩
    | set neg l => exact ⟨91, _, rfl, by omega⟩
  | pos _ => exact ⟨40, _, rfl, by omega⟩
  | cap _ _ _ => exact ⟨40, _, rfl, by omega⟩
  | ref _ _ _ => exact ⟨37, _, rfl, by omega⟩
  | brc _ _ => exact ⟨37, _, rfl, by omega⟩
theorem ts_pts {k k' : Nat} {ts : List Tk} (h : TS k k' ts) : ∃ ps, PtsOf ts ps := by
  induction h with
  | nil => exact ⟨_, .nil⟩
  | @cls _ _ c q _ _ _ _ ih =>
    obtain ⟨ps, ih⟩ := ih
    by_cases hq : q = 0
    · subst hq; exact ⟨_, .cls0 ih⟩
    · exact ⟨_, .clsq hq ih⟩
  | pos _ ih => obtain ⟨ps, ih⟩ := ih; exact ⟨_, .pos ih⟩
  | cap _ _ _ ih1 ih2 => obtain ⟨l, ih1⟩ := ih1; obtain ⟨ps, ih2⟩ := ih2; exact ⟨_, .cap ih1 ih2⟩
  | ref _ _ _ ih => obtain ⟨ps, ih⟩ := ih; exact ⟨_, .ref ih⟩
  | brc _ _ ih => obtain ⟨ps, ih⟩ := ih; exact ⟨_, .brc ih⟩
/-- The parser over a row of tokens. -/
theorem ts_run {zs : List Int} {k k' : Nat} {ts : List Tk} (h : TS k k' ts) : ∃ ps, PtsOf ts ps ∧ ∀ (c : Nat) (top q : Bool) (acc : List Pt) (r : PR), At zs c (txts ts) → PRun zs top (c + (txts ts).length) (acc ++ ps) q r → PRun zs top c acc q r := by
  induction h with
  | nil => exact ⟨[], .nil, fun c top q acc r _ hr => by simpa [txts] using hr⟩
  | @cls _ _ c q ts hc hq _ ih =>
    obtain ⟨ps, hp, ih⟩ := ih
    by_cases h0 : q = 0
    · subst h0
      refine ⟨_, .cls0 hp, fun i top fl acc r ha hr => ?_⟩
      have e : txts (Tk.cls c 0 :: ts) = c.txt ++ txts ts := by simp [txts, Tk.txt, qtxt]
      rw [e] at ha hr
      refine one_run hc ha.app.1 (ih _ _ _ _ _ ha.app.2 ?_)
      rw [List.length_append, ← Nat.add_assoc] at hr
      simpa using hr
    · refine ⟨_, .clsq h0 hp, fun i top fl acc r ha hr => ?_⟩
      have e : txts (Tk.cls c q :: ts) = c.txt ++ (q :: txts ts) := by simp [txts, Tk.txt, qtxt, h0]
      rw [e] at ha hr
      have hqc := ha.app.2.chr
      have hq4 : q = 42 ∨ q = 43 ∨ q = 45 ∨ q = 63 := by
        simp only [quants, List.mem_cons, List.not_mem_nil, or_false] at hq; omega
      refine one_run hc ha.app.1 (.quant (by rw [hqc]; exact hq4) (ih _ _ _ _ _ ha.app.2.tail ?_))
      rw [hqc]
      rw [List.length_append, List.length_cons, ← Nat.add_assoc] at hr
      simpa [Nat.add_assoc, Nat.add_comm, Nat.add_left_comm] using hr
  | @pos kp _ ts _ ih =>
    obtain ⟨ps, hp, ih⟩ := ih
    refine ⟨_, .pos hp, fun i top fl acc r ha hr => ?_⟩
    have ha' : At zs i (40 :: 41 :: txts ts) := ha
    refine .posc ha'.chr ha'.tail.chr (ih _ _ _ _ _ ha'.tail.tail ?_)
    have e : (txts (Tk.pos kp :: ts)).length = 2 + (txts ts).length := by simp [txts, Tk.txt]; omega
    rw [e, ← Nat.add_assoc] at hr
    simpa using hr
  | @cap k0 k1 k2 inner ts hi hne _ ih1 ih2 =>
    obtain ⟨l, hl, ih1⟩ := ih1
    obtain ⟨ps, hp, ih2⟩ := ih2
    refine ⟨_, .cap hl hp, fun i top fl acc r ha hr => ?_⟩
    have e : txts (Tk.opn k0 :: (inner ++ Tk.clo k0 :: ts)) = 40 :: (txts inner ++ (41 :: txts ts)) := by simp [txts, Tk.txt]
    rw [e] at ha hr
    have h41 := ha.tail.app.2.chr
    obtain ⟨z, rr, ez, hz⟩ := ts_first hi hne
    have hz1 : chr zs (i + 1) = z := At.chr (l := rr) (by rw [← ez]; exact ha.tail.app.1)
    refine .capt ha.chr (by omega) (ih1 _ _ _ _ _ ha.tail.app.1 (.close h41)) h41 (ih2 _ _ _ _ _ ha.tail.app.2.tail ?_)
    simp only [List.length_cons, List.length_append] at hr
    simpa [Nat.add_assoc, Nat.add_comm, Nat.add_left_comm] using hr
  | @ref _ _ n ts h1 h9 _ ih =>
    obtain ⟨ps, hp, ih⟩ := ih
    refine ⟨_, .ref hp, fun i top fl acc r ha hr => ?_⟩
    have ha' : At zs i (37 :: (48 + (n : Int)) :: txts ts) := ha
    have h2 := ha'.tail.chr
    refine .num ha'.chr (by omega) (by omega) (ih _ _ _ _ _ ha'.tail.tail ?_)
    have e : (txts (Tk.ref n :: ts)).length = 2 + (txts ts).length := by simp [txts, Tk.txt]; omega
    rw [e, ← Nat.add_assoc] at hr
    rw [h2, show 48 + (n : Int) - 48 = n by omega]
    simpa using hr
  | @brc _ _ x y ts hx _ ih =>
    obtain ⟨ps, hp, ih⟩ := ih
    refine ⟨_, .brc hp, fun i top fl acc r ha hr => ?_⟩
    have ha' : At zs i (37 :: 98 :: x :: y :: txts ts) := ha
    have hl := ha'.tail.tail.tail.lt
    have h2 := ha'.tail.tail.chr
    have h3 := ha'.tail.tail.tail.chr
    refine .brace ha'.chr ha'.tail.chr ?_
    rw [show min (i + 4) (zs.length + 1) = i + 4 by omega, show i + 2 = i + 1 + 1 from rfl, show i + 3 = i + 1 + 1 + 1 from rfl, h2, h3]
    refine ih _ _ _ _ _ ha'.tail.tail.tail.tail ?_
    have e : (txts (Tk.brc x y :: ts)).length = 4 + (txts ts).length := by simp [txts, Tk.txt]; omega
    rw [e, ← Nat.add_assoc] at hr
    simpa using hr


def defect : Nat → List Int
  | 0 => [40]
  | 1 => [41]
  | 2 => [37, 48]
  | _ => [91]
def defPos (n : Nat) : Nat → Int
  | 0 => -1
  | 1 => if n < 2 then 0 else (n : Int) - 2
  | 2 => (n : Int) - 2
  | _ => (n : Int) - 1
def defMsg : Nat → Nat
  | 0 => 2
  | 1 => 0
  | 2 => 1
  | _ => 3
theorem chr_out {zs : List Int} {c : Nat} (h : zs.length ≤ c) : chr zs c = -1 := by unfold chr; rw [if_neg (by omega)]
/-- The defect at the cursor c, the last thing in the text. -/
theorem bad_run {zs : List Int} {c d : Nat} {acc : List Pt} {q : Bool} (hd : d ≤ 3) (h : At zs c (defect d)) (hl : c + (defect d).length = zs.length) : PRun zs true c acc q (.err (defPos zs.length d) (defMsg d)) := by
  rcases (show d = 0 ∨ d = 1 ∨ d = 2 ∨ d = 3 by omega) with rfl | rfl | rfl | rfl
  · simp only [defect, List.length_cons, List.length_nil] at hl
    have h1 : chr zs c = 40 := At.chr (l := []) h
    have e : posOf zs.length (zs.length + 1) = -1 := by unfold posOf; rw [if_neg (by omega), if_neg (by omega)]
    have := PRun.capOpen (top := true) (acc := acc) (q := q) h1 (by rw [chr_out (by omega)]; omega) (.fin (by omega)) (by rw [chr_out (by omega)]; omega)
    rw [e] at this
    exact this
  · simp only [defect, List.length_cons, List.length_nil] at hl
    have h1 : chr zs c = 41 := At.chr (l := []) h
    have e : posOf zs.length c = defPos zs.length 1 := by
      unfold posOf defPos
      simp only
      split <;> split <;> omega
    rw [← e]
    exact .closeTop h1
  · simp only [defect, List.length_cons, List.length_nil] at hl
    have h' : At zs c (37 :: 48 :: []) := h
    have e : (c : Int) = defPos zs.length 2 := by simp only [defPos]; omega
    rw [← e]
    exact .idx h'.chr h'.tail.chr
  · simp only [defect, List.length_cons, List.length_nil] at hl
    have h1 : chr zs c = 91 := At.chr (l := []) h
    have e : (c : Int) = defPos zs.length 3 := by simp only [defPos]; omega
    rw [← e]
    exact .clsErr h1 (by omega)
theorem bad_ptop {ts : List Tk} {k d : Nat} (an : Bool) (hts : TS 1 k ts) (hd : d ≤ 3) :
    PTop ((if an then [94] else []) ++ txts ts ++ defect d) true 0 an (.err (defPos ((if an then [94] else []) ++ txts ts ++ defect d).length d) (defMsg d)) := by
  obtain ⟨ps, -, hrun⟩ := ts_run (zs := (if an then [94] else []) ++ txts ts ++ defect d) hts
  generalize hz : (if an then [94] else []) ++ txts ts ++ defect d = zs at *
  cases an with
  | true =>
    have h : At zs 0 (94 :: (txts ts ++ defect d)) := ⟨[], by rw [← hz]; simp⟩
    refine .inl ⟨rfl, h.chr, rfl, hrun _ _ _ _ _ h.tail.app.1 (bad_run hd h.tail.app.2 ?_)⟩
    rw [← hz]; simp; omega
  | false =>
    have h : At zs 0 (txts ts ++ defect d) := ⟨[], by rw [← hz]; simp⟩
    refine .inr ⟨fun _ => ?_, rfl, hrun _ _ _ _ _ h.app.1 (bad_run hd h.app.2 ?_)⟩
    · have : chr zs 0 ≠ 94 := by
        by_cases hn : ts = []
        · subst hn
          have h' : At zs 0 (defect d) := h
          rcases (show d = 0 ∨ d = 1 ∨ d = 2 ∨ d = 3 by omega) with rfl | rfl | rfl | rfl
          · rw [At.chr (l := []) h']; omega
          · rw [At.chr (l := []) h']; omega
          · rw [At.chr (l := [48]) h']; omega
          · rw [At.chr (l := []) h']; omega
        · obtain ⟨z, rr, ez, hz1, hz2⟩ := ts_first hts hn
          have h' := h.app.1
          rw [ez] at h'
          rw [h'.chr]; exact hz1
      simpa using this
    · rw [← hz]; simp

end Go.Proofs.YtcfhhcjcnafcjaaFmt
