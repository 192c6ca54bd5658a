/-
  What the pattern parser makes is small and can be compiled: how many items, which quantifiers. Plain laws; no condition beyond what each states.
-/
import Derived.Test.YtejankffdmahnaaFmtIns
import Derived.Test.YtejankffdmahnaaFmtPpDefs
namespace Go.Proofs.YtejankffdmahnaaFmt
open Go.RowKit
set_option linter.unusedVariables false
set_option linter.unusedSimpArgs false

mutual
/-- How much an item weighs. -/
def Pt.sz : Pt → Nat
  | .cap l => 2 + Pt.szs l
  | .one _ => 1
  | .rep _ _ => 1
  | .pos => 1
  | .num _ => 1
  | .brace _ _ => 1
def Pt.szs : List Pt → Nat
  | [] => 0
  | p :: ps => p.sz + Pt.szs ps
end
mutual
/-- The quantifiers are the four. -/
def Pt.wf : Pt → Prop
  | .cap l => Pt.wfs l
  | .rep t _ => t = 42 ∨ t = 43 ∨ t = 45 ∨ t = 63
  | .one _ => True
  | .pos => True
  | .num _ => True
  | .brace _ _ => True
def Pt.wfs : List Pt → Prop
  | [] => True
  | p :: ps => p.wf ∧ Pt.wfs ps
end
theorem szs_app : ∀ (a b : List Pt), Pt.szs (a ++ b) = Pt.szs a + Pt.szs b
  | [], b => by simp [Pt.szs]
  | p :: a, b => by simp only [List.cons_append, Pt.szs, szs_app a b]; omega
theorem wfs_app : ∀ (a b : List Pt), Pt.wfs (a ++ b) ↔ Pt.wfs a ∧ Pt.wfs b
  | [], b => by simp [Pt.wfs]
  | p :: a, b => by simp only [List.cons_append, Pt.wfs, wfs_app a b, and_assoc]
theorem sz_pos (p : Pt) : 1 ≤ p.sz := by cases p <;> simp [Pt.sz] <;> omega
theorem prun_sz {zs : List Int} {top : Bool} {c : Nat} {acc : List Pt} {q : Bool} {r : PR} (h : PRun zs top c acc q r) : ∀ {l : List Pt} {tl : Bool} {cf : Nat}, r = .ok l tl cf → c ≤ zs.length + 1 → Pt.wfs acc → Pt.szs l + c ≤ Pt.szs acc + cf ∧ Pt.wfs l := by
  induction h with
  | fin h1 => intro l tl cf e hc hw; cases e; exact ⟨by omega, hw⟩
  | close _ => intro l tl cf e hc hw; cases e; exact ⟨by omega, hw⟩
  | closeTop _ => intro l tl cf e; cases e
  | idx _ _ => intro l tl cf e; cases e
  | clsErr _ _ => intro l tl cf e; cases e
  | capOpen _ _ _ _ _ => intro l tl cf e; cases e
  | capErr _ _ _ _ => intro l tl cf e; cases e
  | num h1 h2 h3 _ ih =>
    intro l tl cf e hc hw
    have hl := chr_lt (zs := zs) (c := _) (by rw [h1]; omega)
    have := ih e (by omega) (by rw [wfs_app]; exact ⟨hw, by simp [Pt.wfs, Pt.wf]⟩)
    simp only [szs_app, Pt.szs, Pt.sz] at this
    exact ⟨by omega, this.2⟩
  | brace h1 h2 _ ih =>
    intro l tl cf e hc hw
    have hl := chr_lt (zs := zs) (c := _) (by rw [h1]; omega)
    have := ih e (by omega) (by rw [wfs_app]; exact ⟨hw, by simp [Pt.wfs, Pt.wf]⟩)
    simp only [szs_app, Pt.szs, Pt.sz] at this
    exact ⟨by omega, this.2⟩
  | esc h1 _ _ _ ih =>
    intro l tl cf e hc hw
    have hl := chr_lt (zs := zs) (c := _) (by rw [h1]; omega)
    have := ih e (by omega) (by rw [wfs_app]; exact ⟨hw, by simp [Pt.wfs, Pt.wf]⟩)
    simp only [szs_app, Pt.szs, Pt.sz] at this
    exact ⟨by omega, this.2⟩
  | cls h1 h2 _ ih =>
    intro l tl cf e hc hw
    have h3 := parseCls_lt h2
    simp only at h3
    have := ih e (by omega) (by rw [wfs_app]; exact ⟨hw, by simp [Pt.wfs, Pt.wf]⟩)
    simp only [szs_app, Pt.szs, Pt.sz] at this
    exact ⟨by omega, this.2⟩
  | posc h1 _ _ ih =>
    intro l tl cf e hc hw
    have hl := chr_lt (zs := zs) (c := _) (by rw [h1]; omega)
    have := ih e (by omega) (by rw [wfs_app]; exact ⟨hw, by simp [Pt.wfs, Pt.wf]⟩)
    simp only [szs_app, Pt.szs, Pt.sz] at this
    exact ⟨by omega, this.2⟩
  | capt h1 _ hin h3 _ ih1 ih2 =>
    intro l tl cf e hc hw
    have hl := chr_lt (zs := zs) (c := _) (by rw [h1]; omega)
    have h5 := chr_lt (zs := zs) (c := _) (by rw [h3]; omega)
    have a := ih1 rfl (by omega) (by simp [Pt.wfs])
    have := ih2 e (by omega) (by rw [wfs_app]; exact ⟨hw, by simp only [Pt.wfs, Pt.wf, and_true]; exact a.2⟩)
    simp only [szs_app, Pt.szs, Pt.sz] at this a
    exact ⟨by omega, this.2⟩
  | quant h1 _ ih =>
    intro l tl cf e hc hw
    have hl := chr_lt (zs := zs) (c := _) (by rcases h1 with h | h | h | h <;> (rw [h]; omega))
    rw [wfs_app] at hw
    have := ih e (by omega) (by rw [wfs_app]; exact ⟨hw.1, by simp only [Pt.wfs, Pt.wf, and_true]; exact h1⟩)
    simp only [szs_app, Pt.szs, Pt.sz] at this ⊢
    exact ⟨by omega, this.2⟩
  | quantLit h1 _ _ ih =>
    intro l tl cf e hc hw
    have hl := chr_lt (zs := zs) (c := _) (by rcases h1 with h | h | h | h <;> (rw [h]; omega))
    have := ih e (by omega) (by rw [wfs_app]; exact ⟨hw, by simp [Pt.wfs, Pt.wf]⟩)
    simp only [szs_app, Pt.szs, Pt.sz] at this
    exact ⟨by omega, this.2⟩
  | tail h1 _ _ ih =>
    intro l tl cf e hc hw
    have hl := chr_lt (zs := zs) (c := _) (by rw [h1]; omega)
    have := ih e (by omega) hw
    exact ⟨by omega, this.2⟩
  | dollar h1 _ _ ih =>
    intro l tl cf e hc hw
    have hl := chr_lt (zs := zs) (c := _) (by rw [h1]; omega)
    have := ih e (by omega) (by rw [wfs_app]; exact ⟨hw, by simp [Pt.wfs, Pt.wf]⟩)
    simp only [szs_app, Pt.szs, Pt.sz] at this
    exact ⟨by omega, this.2⟩
  | lit h1 _ _ ih =>
    intro l tl cf e hc hw
    have := ih e (by omega) (by rw [wfs_app]; exact ⟨hw, by simp [Pt.wfs, Pt.wf]⟩)
    simp only [szs_app, Pt.szs, Pt.sz] at this
    exact ⟨by omega, this.2⟩
/-- The compiler takes all that the parser makes. -/
theorem crun_ex : ∀ (n : Nat) (l : List Pt), Pt.szs l ≤ n → Pt.wfs l → ∀ (I : List Ins) (k : Nat), ∃ I' k', CRun l I k I' k' ∧ I'.length ≤ I.length + 3 * Pt.szs l ∧ k' ≤ k + 2 * Pt.szs l := by
  intro n
  induction n with
  | zero =>
    intro l hl hw I k
    cases l with
    | nil => exact ⟨I, k, .nil, by omega, by omega⟩
    | cons p ps => have := sz_pos p; simp only [Pt.szs] at hl; omega
  | succ n ih =>
    intro l hl hw I k
    cases l with
    | nil => exact ⟨I, k, .nil, by omega, by omega⟩
    | cons p ps =>
      have hp := sz_pos p
      simp only [Pt.szs] at hl
      simp only [Pt.wfs] at hw
      have step := ih ps (by omega) hw.2
      simp only [Pt.szs]
      cases p with
      | one c =>
        obtain ⟨I', k', h1, h2, h3⟩ := step (I ++ [.chr c]) k
        simp only [List.length_append, List.length_cons, List.length_nil] at h2
        exact ⟨I', k', .one h1, by omega, by omega⟩
      | rep t c =>
        rcases hw.1 with rfl | rfl | rfl | rfl
        · obtain ⟨I', k', h1, h2, h3⟩ := step (I ++ [.split (I.length + 1) (I.length + 3), .chr c, .jmp I.length]) k
          simp only [List.length_append, List.length_cons, List.length_nil] at h2
          exact ⟨I', k', .star h1, by omega, by omega⟩
        · obtain ⟨I', k', h1, h2, h3⟩ := step (I ++ [.chr c, .split I.length (I.length + 2)]) k
          simp only [List.length_append, List.length_cons, List.length_nil] at h2
          exact ⟨I', k', .plus h1, by omega, by omega⟩
        · obtain ⟨I', k', h1, h2, h3⟩ := step (I ++ [.split (I.length + 3) (I.length + 1), .chr c, .jmp I.length]) k
          simp only [List.length_append, List.length_cons, List.length_nil] at h2
          exact ⟨I', k', .minus h1, by omega, by omega⟩
        · obtain ⟨I', k', h1, h2, h3⟩ := step (I ++ [.split (I.length + 1) (I.length + 2), .chr c]) k
          simp only [List.length_append, List.length_cons, List.length_nil] at h2
          exact ⟨I', k', .opt h1, by omega, by omega⟩
      | pos =>
        obtain ⟨I', k', h1, h2, h3⟩ := step (I ++ [.psave k]) (k + 2)
        simp only [List.length_append, List.length_cons, List.length_nil] at h2
        exact ⟨I', k', .pos h1, by omega, by omega⟩
      | cap l2 =>
        simp only [Pt.sz] at hl hp ⊢
        obtain ⟨I1, k1, a1, a2, a3⟩ := ih l2 (by omega) hw.1 (I ++ [.save k]) (k + 2)
        obtain ⟨I', k', h1, h2, h3⟩ := step (I1 ++ [.save (k + 1)]) k1
        simp only [List.length_append, List.length_cons, List.length_nil] at a2 h2
        exact ⟨I', k', .cap a1 h1, by omega, by omega⟩
      | num m =>
        obtain ⟨I', k', h1, h2, h3⟩ := step (I ++ [.num m]) k
        simp only [List.length_append, List.length_cons, List.length_nil] at h2
        exact ⟨I', k', .num h1, by omega, by omega⟩
      | brace b e =>
        obtain ⟨I', k', h1, h2, h3⟩ := step (I ++ [.brace b e]) k
        simp only [List.length_append, List.length_cons, List.length_nil] at h2
        exact ⟨I', k', .brace h1, by omega, by omega⟩
/-- What the parser makes at the top compiles into a small program. -/
theorem top_crun {zs : List Int} {must tl : Bool} {l : List Pt} {cf : Nat} (h : PTop zs true 0 must (.ok l tl cf)) (hcf : cf ≤ zs.length + 1) : ∃ I' k', CRun l [.save 0] 2 I' k' ∧ I'.length ≤ 4 + 3 * zs.length ∧ k' ≤ 4 + 2 * zs.length := by
  have hs : Pt.szs l ≤ zs.length + 1 ∧ Pt.wfs l := by
    rcases h with ⟨_, _, _, hr⟩ | ⟨_, _, hr⟩
    · have := prun_sz hr rfl (by omega) (by simp [Pt.wfs])
      simp only [Pt.szs] at this
      exact ⟨by omega, this.2⟩
    · have := prun_sz hr rfl (by omega) (by simp [Pt.wfs])
      simp only [Pt.szs] at this
      exact ⟨by omega, this.2⟩
  obtain ⟨I', k', h1, h2, h3⟩ := crun_ex _ l (Nat.le_refl _) hs.2 [.save 0] 2
  simp only [List.length_cons, List.length_nil] at h2
  exact ⟨I', k', h1, by omega, by omega⟩
end Go.Proofs.YtejankffdmahnaaFmt
