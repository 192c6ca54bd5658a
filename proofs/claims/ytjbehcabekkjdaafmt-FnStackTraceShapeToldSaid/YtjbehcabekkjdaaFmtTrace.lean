/-
  What stackTrace writes, as a plain list of lines; how many newlines stand in it and how it ends. No program in sight. No condition beyond what each states.
-/
import Derived.Test.YtjbehcabekkjdaaFmtWhere
import Derived.Test.YtjbehcabekkjdaaFmtFmtN
import Derived.Lib.Join
namespace Go.Proofs.YtjbehcabekkjdaaFmt
open Go.RowKit Go.Kit
set_option linter.unusedVariables false
set_option linter.unusedSimpArgs false

def tcLine : ByteArray := ⟨#[9, 40, 116, 97, 105, 108, 99, 97, 108, 108, 41, 58, 32, 63]⟩
def gLine : ByteArray := ⟨#[9, 91, 71, 93, 58, 32, 63]⟩
def dotLine : ByteArray := ⟨#[9, 46, 46, 46]⟩
def headT : List UInt8 := [115, 116, 97, 99, 107, 32, 116, 114, 97, 99, 101, 98, 97, 99, 107, 58]
def lineOf (fs : List Fr) (k : Nat) (src : ByteArray) (ld : Int) (child : Bool) : ByteArray := ⟨(text5 (whereT fs[k]! src).data.toList (fmtOf (rawOf fs k src ld child)).data.toList).toArray⟩
/-- A frame's lines: its own, then one for each elided tail call. -/
def blockOf (fs : List Fr) (k : Nat) (src : ByteArray) (ld : Int) (child : Bool) : List ByteArray := lineOf fs k src ld child :: List.replicate (tailF fs[k]!).toNat tcLine
/-- The lines of the lowest j frames, the topmost first. -/
def linesAt (fs : List Fr) (src : ByteArray) (ld : Int) (child : Bool) : Nat → List ByteArray
  | 0 => []
  | j + 1 => blockOf fs j src ld child ++ linesAt fs src ld child j
def allLines (fs : List Fr) (src : ByteArray) (ld : Int) (child : Bool) : List ByteArray := linesAt fs src ld child fs.length ++ [gLine]
def clampD (level : Int) (T : Nat) : Nat := if level ≤ 0 then 0 else if level < (T : Int) then level.toNat else T
def cutL (L : List ByteArray) : List ByteArray := if 20 < L.length then L.take 7 ++ [dotLine] ++ L.drop (L.length - 7) else L
def shownL (fs : List Fr) (src : ByteArray) (ld : Int) (child : Bool) (level : Int) : List ByteArray := cutL ((allLines fs src ld child).drop (clampD level (allLines fs src ld child).length))
def bodyOf (L : List ByteArray) : List UInt8 := Lib.join (L.map (·.data.toList)) [10]
def traceT (fs : List Fr) (src : ByteArray) (ld : Int) (child : Bool) (level : Int) : ByteArray := ⟨(text7 headT (bodyOf (shownL fs src ld child level))).toArray⟩

theorem stackAt_add (fs : List Fr) : ∀ (m : Nat) (x : Int) (j : Nat), stackAt fs m x = (j + 1, 0) → ∀ d : Int, 0 < d → stackAt fs m (x + d) = stackAt fs (j + 1) d
  | 0, x, j, h, d, hd => by
    rw [stackAt_zero] at h
    injection h with h1 h2
    omega
  | m + 1, x, j, h, d, hd => by
    by_cases hx : 0 < x
    · rw [stackAt_step fs hx] at h
      rw [stackAt_step fs (by omega), show x + d - 1 - tailF fs[m]! = x - 1 - tailF fs[m]! + d by omega]
      exact stackAt_add fs m _ j h d hd
    · rw [stackAt_stop fs (by omega)] at h
      injection h with h1 h2
      subst h2
      rw [Int.zero_add, h1]
theorem stackAt_next {fs : List Fr} {m j : Nat} {x : Int} (h : stackAt fs m x = (j + 1, 0)) (h0 : 0 ≤ tailF fs[j]!) : stackAt fs m (x + (1 + tailF fs[j]!)) = (j, 0) := by
  rw [stackAt_add fs m x j h _ (by omega), stackAt_step fs (by omega), show 1 + tailF fs[j]! - 1 - tailF fs[j]! = 0 by omega, stackAt_stop fs (Int.le_refl 0)]
theorem selO_succ {fs : List Fr} {x : Int} {j : Nat} (h : stackAt fs fs.length x = (j + 1, 0)) : selO fs x = some j := by
  unfold selO
  rw [h]
  exact fin_zero rfl
theorem selO_end {fs : List Fr} {x : Int} (h : stackAt fs fs.length x = (0, 0)) : selO fs x = none := by
  unfold selO
  rw [h]
  exact fin_none (Int.le_refl 0)
theorem block_len (fs : List Fr) (k : Nat) (src : ByteArray) (ld : Int) (child : Bool) : (blockOf fs k src ld child).length = 1 + (tailF fs[k]!).toNat := by
  unfold blockOf
  simp
  omega
theorem lines_len {fs : List Fr} (src : ByteArray) (ld : Int) (child : Bool) (ht : ∀ i, i < fs.length → 0 ≤ tailF fs[i]!) : ∀ j, j ≤ fs.length → ((linesAt fs src ld child j).length : Int) = j + sumT (fs.take j)
  | 0, _ => by simp [linesAt, sumT]
  | j + 1, h => by
    have h1 := lines_len src ld child ht j (by omega)
    have h2 := ht j (by omega)
    unfold linesAt
    rw [List.length_append, block_len, take_snocF fs j (by omega), sumT_snoc]
    omega
theorem all_len {fs : List Fr} (src : ByteArray) (ld : Int) (child : Bool) (ht : ∀ i, i < fs.length → 0 ≤ tailF fs[i]!) : ((allLines fs src ld child).length : Int) = fs.length + sumT fs + 1 := by
  have := lines_len src ld child ht fs.length (Nat.le_refl _)
  unfold allLines
  rw [List.take_length] at this
  rw [List.length_append, List.length_singleton]
  omega

def NoNL (s : List UInt8) : Prop := (10 : UInt8) ∉ s
instance : DecidablePred NoNL := fun s => inferInstanceAs (Decidable (¬ (10 : UInt8) ∈ s))
theorem no_app {a b : List UInt8} (ha : NoNL a) (hb : NoNL b) : NoNL (a ++ b) := fun h => by
  rw [List.mem_append] at h
  exact h.elim ha hb
theorem no_dig {d : Nat} (h : d < 10) : NoNL [UInt8.ofNat (48 + d)] := fun hm => by
  rw [List.mem_singleton] at hm
  have := congrArg UInt8.toNat hm
  simp at this
  omega
theorem no_dec (u : Nat) : NoNL (Lib.decDigits u) := by
  induction u using Nat.strongRecOn with
  | _ u ih =>
    rw [Lib.decDigits]
    split
    · exact no_dig (by assumption)
    · exact no_app (ih (u / 10) (by omega)) (no_dig (by omega))
theorem no_itoa (n : Int) : NoNL (Lib.itoa n) := by
  unfold Lib.itoa
  split
  · exact fun h => by
      rw [List.mem_cons] at h
      exact h.elim (by decide) (no_dec _)
  · exact no_dec _
theorem no_where {f : Fr} {src : ByteArray} (hs : NoNL src.data.toList) : NoNL (whereT f src).data.toList := by
  unfold whereT
  split
  · decide
  · simp only [ByteArray.data_append, Array.toList_append]
    exact no_app (no_app (no_app hs (by decide)) (no_itoa _)) (by decide)
theorem no_pos {src : ByteArray} (hs : NoNL src.data.toList) (ld : Int) : NoNL (posText src ld).data.toList := by
  show NoNL (text0 src.data.toList ld)
  unfold text0
  first
  | exact no_app (no_app (no_app (no_app (by decide) hs) (by decide)) (no_itoa _)) (by decide)
  | exact no_app (no_app (no_app (by decide) (no_app hs (by decide))) (no_itoa _)) (by decide)
theorem no_miss {src : ByteArray} (hs : NoNL src.data.toList) (f : Fr) (ld : Int) : NoNL (missName f src ld).data.toList := by
  unfold missName
  split
  · exact no_pos hs ld
  · decide
theorem no_raw {fs : List Fr} {k : Nat} {src : ByteArray} (hs : NoNL src.data.toList) (hn : NoNL fs[k]!.name.data.toList) (ld : Int) (child : Bool) : NoNL (rawOf fs k src ld child).1.data.toList := by
  unfold rawOf
  by_cases h : k = 0
  · rw [if_pos h]
    unfold nameAt
    cases child
    · show NoNL (⟨#[109, 97, 105, 110, 32, 99, 104, 117, 110, 107]⟩ : ByteArray).data.toList
      decide
    · show NoNL (⟨#[99, 111, 114, 111, 117, 110, 116, 105, 110, 101]⟩ : ByteArray).data.toList
      decide
  · rw [if_neg h]
    unfold nameAt
    simp only
    split
    · exact no_miss hs _ _
    · split
      · rename_i c hc
        have hmem := List.mem_of_find?_eq_some hc
        have hcs : NoNL c.1.data.toList := by
          obtain ⟨f, hf⟩ : ∃ f, fs[k]! = f := ⟨_, rfl⟩
          rw [hf] at hmem hn
          unfold callsOf at hmem
          simp only at hmem
          split at hmem
          · cases hmem
          · split at hmem
            · simp at hmem
              rcases hmem with rfl | rfl | rfl
              · decide
              · exact hn
              · decide
            · simp at hmem
              rcases hmem with rfl | rfl
              · decide
              · exact hn
        unfold hitName
        simp only
        split
        · exact no_pos hs _
        · exact hcs
      · exact no_miss hs _ _
theorem no_fmt {r : ByteArray × Bool} (h : NoNL r.1.data.toList) : NoNL (fmtOf r).data.toList := by
  unfold fmtOf
  split
  · exact h
  · split
    · simp only [ByteArray.data_append, Array.toList_append]
      exact no_app (by decide) h
    · simp only [ByteArray.data_append, Array.toList_append]
      exact no_app (no_app (by decide) h) (by decide)
def AllNo (L : List ByteArray) : Prop := ∀ s, s ∈ L → NoNL s.data.toList
theorem no_line {fs : List Fr} {k : Nat} {src : ByteArray} (hs : NoNL src.data.toList) (hn : NoNL fs[k]!.name.data.toList) (ld : Int) (child : Bool) : NoNL (lineOf fs k src ld child).data.toList := by
  show NoNL (text5 _ _)
  unfold text5
  exact no_app (no_app (no_app (by decide) (no_where hs)) (by decide)) (no_fmt (no_raw hs hn ld child))
theorem no_lines {fs : List Fr} {src : ByteArray} (hs : NoNL src.data.toList) (hn : ∀ i, i < fs.length → NoNL fs[i]!.name.data.toList) (ld : Int) (child : Bool) : ∀ j, j ≤ fs.length → AllNo (linesAt fs src ld child j)
  | 0, _ => fun s h => by cases h
  | j + 1, hj => fun s h => by
    unfold linesAt at h
    rw [List.mem_append] at h
    rcases h with h | h
    · unfold blockOf at h
      rw [List.mem_cons] at h
      rcases h with rfl | h
      · exact no_line hs (hn j (by omega)) ld child
      · rw [List.eq_of_mem_replicate h]
        decide
    · exact no_lines hs hn ld child j (by omega) s h
theorem no_all {fs : List Fr} {src : ByteArray} (hs : NoNL src.data.toList) (hn : ∀ i, i < fs.length → NoNL fs[i]!.name.data.toList) (ld : Int) (child : Bool) : AllNo (allLines fs src ld child) := fun s h => by
  unfold allLines at h
  rw [List.mem_append] at h
  rcases h with h | h
  · exact no_lines hs hn ld child _ (Nat.le_refl _) s h
  · rw [List.mem_singleton] at h
    subst h
    decide
theorem no_cut {L : List ByteArray} (h : AllNo L) : AllNo (cutL L) := by
  unfold cutL
  split
  · intro s hs
    rw [List.mem_append, List.mem_append] at hs
    rcases hs with (hs | hs) | hs
    · exact h s (List.mem_of_mem_take hs)
    · rw [List.mem_singleton] at hs
      subst hs
      decide
    · exact h s (List.mem_of_mem_drop hs)
  · exact h
theorem no_shown {fs : List Fr} {src : ByteArray} (hs : NoNL src.data.toList) (hn : ∀ i, i < fs.length → NoNL fs[i]!.name.data.toList) (ld : Int) (child : Bool) (level : Int) : AllNo (shownL fs src ld child level) :=
  no_cut fun s h => no_all hs hn ld child s (List.mem_of_mem_drop h)
theorem cut_len (L : List ByteArray) : (cutL L).length = if 20 < L.length then 15 else L.length := by
  unfold cutL
  split
  · rename_i h
    rw [List.length_append, List.length_append, List.length_take, List.length_drop, List.length_singleton]
    omega
  · rfl
theorem cut_end {M : List ByteArray} (g : ByteArray) : ∃ M', cutL (M ++ [g]) = M' ++ [g] := by
  unfold cutL
  split
  · rename_i h
    rw [List.length_append, List.length_singleton] at h ⊢
    rw [List.drop_append_of_le_length (by omega)]
    exact ⟨_, (List.append_assoc _ _ _).symm⟩
  · exact ⟨M, rfl⟩
theorem clamp_le (level : Int) (T : Nat) : clampD level T ≤ T := by
  unfold clampD
  split
  · omega
  · split <;> omega
theorem shown_end (fs : List Fr) (src : ByteArray) (ld : Int) (child : Bool) (level : Int) (h : 0 < (shownL fs src ld child level).length) : ∃ M, shownL fs src ld child level = M ++ [gLine] := by
  have hc := clamp_le level (allLines fs src ld child).length
  unfold shownL at h ⊢
  generalize clampD level (allLines fs src ld child).length = d at *
  unfold allLines at hc h ⊢
  rw [List.length_append, List.length_singleton] at hc
  by_cases hd : d ≤ (linesAt fs src ld child fs.length).length
  · rw [List.drop_append_of_le_length hd]
    exact cut_end gLine
  · rw [List.drop_of_length_le (by rw [List.length_append, List.length_singleton]; omega)] at h
    unfold cutL at h
    exact absurd h (by simp)
theorem body_nil : bodyOf [] = [] := rfl
theorem body_end (M : List ByteArray) (g : ByteArray) : ∃ p, bodyOf (M ++ [g]) = p ++ g.data.toList := by
  cases M with
  | nil => exact ⟨[], by unfold bodyOf; simp [Lib.join_one]⟩
  | cons x r =>
    refine ⟨x.data.toList ++ (Lib.joinTail [10] (r.map (·.data.toList)) ++ [10]), ?_⟩
    unfold bodyOf
    simp only [List.cons_append, List.map_cons, List.map_append, List.map_nil]
    rw [Lib.join_cons]
    simp [Lib.joinTail]
theorem tail_count : ∀ r : List ByteArray, AllNo r → (Lib.joinTail [10] (r.map (·.data.toList))).count 10 = r.length
  | [], _ => rfl
  | x :: r, h => by
    have h1 := tail_count r fun s hs => h s (List.mem_cons_of_mem _ hs)
    have h2 := List.count_eq_zero_of_not_mem (h x List.mem_cons_self)
    unfold Lib.joinTail at h1 ⊢
    simp only [List.map_cons, List.flatten_cons, List.count_append, List.length_cons] at h1 ⊢
    rw [h1, h2]
    simp
    omega
theorem body_count {L : List ByteArray} (h : AllNo L) (h0 : 0 < L.length) : (bodyOf L).count 10 + 1 = L.length := by
  cases L with
  | nil => exact absurd h0 (by simp)
  | cons x r =>
    have h1 := tail_count r fun s hs => h s (List.mem_cons_of_mem _ hs)
    have h2 := List.count_eq_zero_of_not_mem (h x List.mem_cons_self)
    unfold bodyOf
    rw [List.map_cons, Lib.join_cons, List.count_append, h1, h2]
    simp
theorem body_len {L : List ByteArray} {m n : Nat} (hl : L.length ≤ m) (hs : ∀ s, s ∈ L → s.size ≤ n) : (bodyOf L).length ≤ m * (n + 1) := by
  have key : ∀ r : List ByteArray, (∀ s, s ∈ r → s.size ≤ n) → Lib.lens (r.map (·.data.toList)) ≤ r.length * n := by
    intro r
    induction r with
    | nil => intro _; simp [Lib.lens]
    | cons x r ih =>
      intro h
      have h1 := ih fun s hs => h s (List.mem_cons_of_mem _ hs)
      have h2 := h x List.mem_cons_self
      unfold Lib.lens at h1 ⊢
      simp only [List.map_cons, List.sum_cons, List.length_cons, Nat.succ_mul]
      have h3 : x.data.toList.length = x.size := by simp
      omega
  cases L with
  | nil => simp [bodyOf, Lib.join_nil]
  | cons x r =>
    have h1 := key (x :: r) hs
    unfold bodyOf
    rw [List.map_cons, Lib.join_length, ← List.map_cons (f := fun s : ByteArray => s.data.toList)]
    have h2 : (x :: r).length * n ≤ m * n := Nat.mul_le_mul_right n hl
    rw [List.length_map]
    have h4 : ([10] : List UInt8).length = 1 := rfl
    rw [h4]
    have h5 : (x :: r).length = r.length + 1 := rfl
    rw [h5] at h1 h2 hl
    rw [Nat.mul_add]
    omega
end Go.Proofs.YtjbehcabekkjdaaFmt
