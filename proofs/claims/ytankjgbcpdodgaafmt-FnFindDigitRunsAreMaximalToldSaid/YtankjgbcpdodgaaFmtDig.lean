/-
  The pattern %d+: what the parser and the compiler make of it, how the machine runs on it, what Find hands back. Plain laws; no condition beyond what each states.
-/
import Derived.Test.YtankjgbcpdodgaaFmtFindLit
namespace Go.Proofs.YtankjgbcpdodgaaFmt
open Go.RowKit
set_option linter.unusedVariables false
set_option linter.unusedSimpArgs false

/-- An ASCII digit. -/
def dgB (z : Int) : Bool := decide (48 ≤ z ∧ z ≤ 57)
theorem sgl_dig (z : Int) : Cl.has (.el (.sgl 100)) z = dgB z := by
  show singB 100 z = _
  rw [Bool.eq_iff_iff]
  simp [singB, isLow, lowB, dgB, cls100]
  exact decide_eq_true_iff
/-- A digit stands at the place. -/
def dgAt (src : List Int) (sp : Nat) : Bool := decide (sp < src.length) && dgB (byteAt src sp)
theorem dgAt_iff {src : List Int} {sp : Nat} : dgAt src sp = true ↔ sp < src.length ∧ dgB (byteAt src sp) = true := by simp [dgAt]
/-- Where the run of digits ends that opens at the place (the place itself where none stands). -/
def runEnd (src : List Int) (sp : Nat) : Nat :=
  if h : dgAt src sp = true then runEnd src (sp + 1) else sp
termination_by src.length - sp
decreasing_by have := (dgAt_iff.1 h).1; omega
theorem runEnd_yes {src : List Int} {sp : Nat} (h : dgAt src sp = true) : runEnd src sp = runEnd src (sp + 1) := by
  conv => lhs; unfold runEnd
  rw [dif_pos h]
theorem runEnd_no {src : List Int} {sp : Nat} (h : dgAt src sp = false) : runEnd src sp = sp := by
  unfold runEnd
  rw [dif_neg (by rw [h]; decide)]
theorem runEnd_bound (src : List Int) : ∀ (k sp : Nat), src.length - sp ≤ k → sp ≤ runEnd src sp ∧ (sp ≤ src.length → runEnd src sp ≤ src.length)
  | k, sp, hk => by
    cases h : dgAt src sp with
    | false => rw [runEnd_no h]; exact ⟨Nat.le_refl _, id⟩
    | true =>
      have h1 := (dgAt_iff.1 h).1
      cases k with
      | zero => omega
      | succ k =>
        have := runEnd_bound src k (sp + 1) (by omega)
        rw [runEnd_yes h]
        exact ⟨by omega, fun _ => this.2 (by omega)⟩
theorem runEnd_ge (src : List Int) (sp : Nat) : sp ≤ runEnd src sp := (runEnd_bound src _ sp (Nat.le_refl _)).1
theorem runEnd_le {src : List Int} {sp : Nat} (h : sp ≤ src.length) : runEnd src sp ≤ src.length := (runEnd_bound src _ sp (Nat.le_refl _)).2 h
theorem runEnd_lt {src : List Int} {sp : Nat} (h : dgAt src sp = true) : sp < runEnd src sp := by
  rw [runEnd_yes h]; exact runEnd_ge src (sp + 1)

/-- The program of %d+. -/
def digProg : List Ins := [.save 0, .chr (.el (.sgl 100)), .split 1 3, .save 1, .mat]
def digIns : List Ins := [.save 0] ++ [.chr (.el (.sgl 100)), .split 1 3]
theorem digProg_is : progOf false digIns = digProg := rfl
theorem dig_crun : CRun [.rep 43 (.el (.sgl 100))] [.save 0] 2 digIns 2 := .plus .nil
theorem dig_slots : ∀ i, i ∈ digProg → slotOk i := by
  intro i hi
  simp only [digProg, List.mem_cons, List.not_mem_nil, or_false] at hi
  rcases hi with hi | hi | hi | hi | hi <;> subst hi <;> simp [slotOk]
theorem dig_run {src : List Int} {u : Int} : ∀ (k sp d : Nat), dgAt src sp = true → runEnd src sp - sp ≤ k → k ≤ d → ∃ m, VRun src digProg d m 1 sp [u] (true, runEnd src sp, [u, capW (runEnd src sp : Nat)])
  | 0, sp, d, h, hk, hd => by have := runEnd_lt h; omega
  | k + 1, sp, 0, h, hk, hd => by omega
  | k + 1, sp, d + 1, h, hk, hd => by
    have h1 := (dgAt_iff.1 h).1
    have hy : Cl.has (.el (.sgl 100)) (byteAt src sp) = true := by rw [sgl_dig]; exact (dgAt_iff.1 h).2
    cases h2 : dgAt src (sp + 1) with
    | true =>
      have := runEnd_yes h
      obtain ⟨m, hm⟩ := dig_run (u := u) k (sp + 1) d h2 (by omega) (by omega)
      rw [this]
      exact ⟨_, .chrYes rfl h1 hy (.splitA (n := 0) rfl hm)⟩
    | false =>
      have e : runEnd src sp = sp + 1 := by rw [runEnd_yes h, runEnd_no h2]
      rw [e]
      have hn : src.length ≤ sp + 1 ∨ Cl.has (.el (.sgl 100)) (byteAt src (sp + 1)) = false := by
        rw [sgl_dig]
        simp only [dgAt, Bool.and_eq_false_iff, decide_eq_false_iff_not] at h2
        rcases h2 with h2 | h2
        · exact .inl (by omega)
        · exact .inr h2
      have hs : VRun src digProg (d + 1) 0 3 (sp + 1) [u] (true, sp + 1, [u, capW (sp + 1 : Nat)]) := .saveYes (m := 0) (d := d) rfl (.mat rfl)
      exact ⟨_, .chrYes rfl h1 hy (.splitB (m := 0) rfl (.chrNo rfl hn) hs)⟩
/-- How the machine ends on %d+. -/
def digRes (src : List Int) (sp : Nat) : Bool × Nat × List Int := if dgAt src sp then (true, runEnd src sp, [capW sp, capW (runEnd src sp : Nat)]) else (false, sp, [0])
theorem dig_vrun (src : List Int) (sp : Nat) (h : sp ≤ src.length) : ∃ n, VRun src digProg (src.length + 1) n 0 sp [] (digRes src sp) := by
  unfold digRes
  cases hd : dgAt src sp with
  | true =>
    obtain ⟨m, hm⟩ := dig_run (src := src) (u := capW sp) src.length sp src.length hd (by have := runEnd_le h; omega) (Nat.le_refl _)
    exact ⟨0, by simp only [if_true]; exact .saveYes rfl hm⟩
  | false =>
    have hn : src.length ≤ sp ∨ Cl.has (.el (.sgl 100)) (byteAt src sp) = false := by
      rw [sgl_dig]
      simp only [dgAt, Bool.and_eq_false_iff, decide_eq_false_iff_not] at hd
      rcases hd with hd | hd
      · exact .inl (by omega)
      · exact .inr hd
    have h1 : VRun src digProg src.length 0 1 sp ((ext ([] : List Int) (0 + 1)).set 0 (capW sp)) (false, sp, [capW sp]) := .chrNo rfl hn
    have := VRun.saveNo (n := 0) (I := digProg) (pc := 0) rfl h1 (by simp)
    exact ⟨0, by simpa [ext] using this⟩
theorem digRes_fst (src : List Int) (sp : Nat) : (digRes src sp).1 = dgAt src sp := by unfold digRes; cases dgAt src sp <;> rfl
theorem digRes_le (src : List Int) (sp : Nat) (h : sp ≤ src.length) : (digRes src sp).2.1 ≤ src.length := by
  unfold digRes
  cases dgAt src sp with
  | true => exact runEnd_le h
  | false => exact h
/-- The maximal runs of digits from the place on. -/
def digRuns (src : List Int) (i : Nat) : List (Nat × Nat) :=
  if src.length ≤ i then [] else if dgAt src i then (i, runEnd src i) :: digRuns src (max (i + 1) (runEnd src i)) else digRuns src (i + 1)
termination_by src.length - i
decreasing_by all_goals omega
theorem runs_end {src : List Int} {i : Nat} (h : src.length ≤ i) : digRuns src i = [] := by unfold digRuns; rw [if_pos h]
theorem runs_yes {src : List Int} {i : Nat} (h : dgAt src i = true) : digRuns src i = (i, runEnd src i) :: digRuns src (runEnd src i) := by
  conv => lhs; unfold digRuns
  have := (dgAt_iff.1 h).1
  have h2 := runEnd_lt h
  rw [if_neg (by omega), if_pos h, Nat.max_eq_right (by omega)]
theorem runs_no {src : List Int} {i : Nat} (h : i < src.length) (hn : dgAt src i = false) : digRuns src i = digRuns src (i + 1) := by
  conv => lhs; unfold digRuns
  rw [if_neg (by omega), if_neg (by rw [hn]; decide)]
def digWord (p : Nat × Nat) : List Int := [capW (p.1 : Int), capW (p.2 : Int)]
theorem dig_all (src : List Int) : ∀ (k i : Nat), src.length + 1 - i ≤ k → allFrom src.length (digRes src) i = (digRuns src i).map digWord
  | k, i, hk => by
    by_cases h : src.length < i
    · rw [all_end _ h, runs_end (by omega)]; rfl
    · cases k with
      | zero => omega
      | succ k =>
        cases ho : dgAt src i with
        | true =>
          have e : digRes src i = (true, runEnd src i, [capW i, capW (runEnd src i : Nat)]) := by unfold digRes; rw [ho]; rfl
          have hl := runEnd_lt ho
          rw [all_yes h (by rw [e]), e, runs_yes ho, List.map_cons]
          simp only [Nat.max_eq_right (show i + 1 ≤ runEnd src i by omega)]
          rw [dig_all src k _ (by omega)]
          rfl
        | false =>
          have e : digRes src i = (false, i, [0]) := by unfold digRes; rw [ho]; rfl
          rw [all_no' h (by rw [e]), dig_all src k _ (by omega)]
          by_cases h2 : i < src.length
          · rw [runs_no h2 ho]
          · rw [runs_end (show src.length ≤ i by omega), runs_end (by omega)]
theorem runs_ge (src : List Int) : ∀ (k i : Nat), src.length - i ≤ k → ∀ p, p ∈ digRuns src i → i ≤ p.1 ∧ p.1 < p.2 ∧ p.2 ≤ src.length
  | k, i, hk, p, hp => by
    by_cases h : src.length ≤ i
    · rw [runs_end h] at hp; cases hp
    · cases k with
      | zero => omega
      | succ k =>
        cases ho : dgAt src i with
        | true =>
          have hl := runEnd_lt ho
          have h2 := runEnd_le (src := src) (sp := i) (by omega)
          rw [runs_yes ho] at hp
          rcases List.mem_cons.1 hp with rfl | hp
          · exact ⟨Nat.le_refl _, hl, h2⟩
          · have := runs_ge src k _ (by omega) p hp
            omega
        | false =>
          rw [runs_no (by omega) ho] at hp
          have := runs_ge src k _ (by omega) p hp
          omega
theorem runs_first (src : List Int) (off : Nat) : (∃ r R', digRuns src off = r :: R' ∧ r.1 = off ∧ dgAt src off = true) ∨ (digRuns src off = [] ∧ dgAt src off = false) ∨ (∃ r R', digRuns src off = r :: R' ∧ r.1 ≠ off ∧ dgAt src off = false) := by
  by_cases h : src.length ≤ off
  · exact .inr (.inl ⟨runs_end h, by simp [dgAt]; omega⟩)
  · cases ho : dgAt src off with
    | true => exact .inl ⟨_, _, runs_yes ho, rfl, rfl⟩
    | false =>
      have h1 := runs_no (by omega) ho
      cases hR : digRuns src (off + 1) with
      | nil => exact .inr (.inl ⟨by rw [h1, hR], rfl⟩)
      | cons r R' =>
        have := (runs_ge src _ (off + 1) (Nat.le_refl _) r (by rw [hR]; exact List.mem_cons_self ..)).1
        exact .inr (.inr ⟨r, R', by rw [h1, hR], by omega, rfl⟩)
/-- The parser over %d+. -/
theorem dig_ptop : PTop [37, 100, 43] true 0 false (.ok [.rep 43 (.el (.sgl 100))] false 4) := by
  refine .inr ⟨fun _ => by decide, rfl, ?_⟩
  refine .esc (by decide) (by decide) (by decide) ?_
  refine .quant (acc := []) (by decide) ?_
  exact .fin (by decide)
theorem find_dig (s : ByteArray) {w : World} {sao : Option Addr} {scap : Nat} {zs : List Int} (off : Nat) (limit : Int) {first : Bool} (hs : bz s = [37, 100, 43]) (hs3 : s.size = 3) (hf : first = dgAt zs off)
    (hsrc : RowInt .u8 w sao zs) (hsb : ∀ x, sao = some x → x.block < w.heap.size) (hby : ∀ z, z ∈ zs → 0 ≤ z ∧ z ≤ 255) (hlen : zs.length ≤ 65536) (hoff : off ≤ 9223372036854775807) :
    Calls Tryf.prog 20 #[.string s, .slice sao zs.length scap, .int .i64 off, .int .i64 limit] w (FindPost w (((digRuns zs off).take (kept (digRuns zs off).length first limit)).map digWord)) := by
  have h := find_any s (scap := scap) off limit (must := false) (tl := false) (l := [.rep 43 (.el (.sgl 100))]) (cf := 4) (I' := digIns) (k' := 2) (d := zs.length + 1) (res := digRes zs) (by omega)
    (fun w b ao cap h => by rw [hs] at h ⊢; exact parsePat_any h (by decide) (by decide) dig_ptop) dig_crun (by decide) (by decide) dig_slots hsrc hsb hby hlen (fun sp h => dig_vrun _ sp h) (fun sp h => digRes_le _ sp h) (by omega) hoff
  rw [find_kept _ _ limit off first (by
    rw [hf, digRes_fst]
    cases h : dgAt zs off with
    | false => simp
    | true => have := (dgAt_iff.1 h).1; simp; omega), dig_all _ _ off (Nat.le_refl _), List.length_map, ← List.map_take] at h
  exact h

end Go.Proofs.YtankjgbcpdodgaaFmt
