/-
  A law on regions that draw their order: what holds of the state whatever has come up so far, and is kept by each operation, holds behind the region. Its condition: each operation waits for earlier ones alone (a closed Bool).
-/
import Derived.Test.YtkokfokcbhkcoaaFmtMem
import Derived.RegionTactic
namespace Go.Proofs.YtkokfokcbhkcoaaFmt
open Go.RowKit
set_option linter.unusedVariables false
set_option linter.unusedSimpArgs false

/-- Each operation waits for earlier ones alone. -/
def waitsBack (ops : Array Oper) : Bool := (List.range ops.size).all fun i => match ops[i]? with
  | some o => o.after.all fun e => decide (e.on < i)
  | none => true

theorem waitsBack_spec {ops : Array Oper} (h : waitsBack ops = true) {i : Nat} {o : Oper} (ho : ops[i]? = some o) : ∀ e ∈ o.after, e.on < i := by
  intro e he
  have hi : i < ops.size := (Array.getElem?_eq_some_iff.1 ho).1
  have h1 := List.all_eq_true.1 h i (List.mem_range.2 hi)
  simp only [ho] at h1
  rw [Array.all_eq_true_iff_forall_mem] at h1
  exact of_decide_eq_true (h1 e he)

theorem getD_lt {l : Array Bool} {k : Nat} (h : k < l.size) (a b : Bool) : l.getD k a = l.getD k b := by
  simp [Array.getD, h]

section
variable {P : Program} {ops : Array Oper} {Q : Exit → Act → World → Prop}
theorem wpAny_inv (hb : waitsBack ops = true) (J : (Nat → Bool) → Act → World → Prop)
    (step : ∀ (L : Nat → Bool) a w i o, ops[i]? = some o → L i = false → (∀ e ∈ o.after, Region.binds .any e = true → L e.on = true) → J L a w → wpOp P ops Q i (J (fun k => k == i || L k)) a w)
    (done : ∀ L a w, (∀ i, i < ops.size → L i = true) → J L a w → Q .normal a w) :
    ∀ (fuel : Nat) (listed : Array Bool) (a : Act) (w : World), listed.size = ops.size → listed.toList.count false = fuel → J (fun k => listed.getD k false) a w → wpAny P .any ops Q fuel listed a w := by
  have none_ready : ∀ (listed : Array Bool), listed.size = ops.size → Region.ready .any ops listed = [] → ∀ i, i < ops.size → listed.getD i false = true := by
    intro listed hs hr i
    induction i using Nat.strongRecOn with
    | _ i ih =>
      intro hi
      rcases hc : listed.getD i false with _ | _
      · exfalso
        have ho : ops[i]? = some ops[i] := Array.getElem?_eq_getElem hi
        have : i ∈ Region.ready .any ops listed := mem_ready.2 ⟨by rw [getD_lt (by omega) true false]; exact hc, ops[i], ho, fun e he _ => by
          have hlt := waitsBack_spec hb ho e he
          exact ih e.on hlt (by omega)⟩
        rw [hr] at this
        cases this
      · rfl
  intro fuel
  induction fuel with
  | zero =>
    intro listed a w hs hc hJ
    have hall : ∀ i, i < ops.size → listed.getD i false = true := by
      intro i hi
      rcases hcc : listed.getD i false with _ | _
      · exfalso
        have : false ∈ listed.toList := by
          have hi' : i < listed.size := by omega
          rw [Array.getD_eq_getD_getElem?, Array.getElem?_eq_getElem hi'] at hcc
          simp only [Option.getD_some] at hcc
          rw [← hcc]
          exact Array.mem_toList_iff.2 (Array.getElem_mem hi')
        exact (List.count_eq_zero.1 hc) this
      · rfl
    refine ⟨?_, done _ a w hall hJ⟩
    rcases hr : Region.ready .any ops listed with _ | ⟨x, xs⟩
    · rfl
    · exfalso
      have hx : x ∈ Region.ready .any ops listed := by rw [hr]; simp
      obtain ⟨h1, o, ho, _⟩ := mem_ready.1 hx
      have hx' : x < ops.size := (Array.getElem?_eq_some_iff.1 ho).1
      have := hall x hx'
      rw [getD_lt (by omega) false true, h1] at this
      cases this
  | succ fuel ih =>
    intro listed a w hs hc hJ
    refine ⟨fun h0 => done _ a w (none_ready listed hs h0) hJ, fun i hi => ?_⟩
    obtain ⟨h1, o, ho, h2⟩ := mem_ready.1 hi
    have hi' : i < ops.size := (Array.getElem?_eq_some_iff.1 ho).1
    have hil : i < listed.size := by omega
    have hst := step (fun k => listed.getD k false) a w i o ho (by show listed.getD i false = false; rw [getD_lt hil false true]; exact h1) h2 hJ
    refine wpOp_mono (fun a' w' hj => ?_) hst
    refine ih (listed.setIfInBounds i true) a' w' (by simp [hs]) ?_ ?_
    · rw [Array.toList_setIfInBounds, List.count_set (by simpa using hil)]
      have hli : listed.toList[i]'(by simpa using hil) = false := by
        have : listed.getD i true = listed[i] := by simp [Array.getD, hil]
        rw [this] at h1
        simpa using h1
      rw [hli, hc]
      simp
    · have e : (fun k => (listed.setIfInBounds i true).getD k false) = (fun k => k == i || listed.getD k false) := by
        funext k
        rcases Nat.lt_or_ge k listed.size with hk | hk
        · simp only [Array.getD_eq_getD_getElem?, Array.getElem?_setIfInBounds]
          by_cases hik : i = k
          · subst hik; simp [hil]
          · simp [hik, Ne.symm hik]
        · have hki : k ≠ i := by omega
          simp [Array.getD, show ¬ k < listed.size by omega, hki]
      rw [e]
      exact hj

theorem wp_region_inv {id : Nat} {a : Act} {w : World} (hm : P.follows .mixedOrders = true) (hb : waitsBack ops = true) (J : (Nat → Bool) → Act → World → Prop) (start : J (fun _ => false) a w.drew)
    (step : ∀ (L : Nat → Bool) a w i o, ops[i]? = some o → L i = false → (∀ e ∈ o.after, Region.binds .any e = true → L e.on = true) → J L a w → wpOp P ops Q i (J (fun k => k == i || L k)) a w)
    (done : ∀ L a w, (∀ i, i < ops.size → L i = true) → J L a w → Q .normal a w) : (Code.region id ops true).wp P Q a w := by
  refine wp_region_any hm ?_
  refine wpAny_inv hb J step done ops.size _ a _ (by simp) ?_ ?_
  · simp
  · have e : (fun k => (Array.replicate ops.size false).getD k false) = (fun _ => false) := by
      funext k
      simp only [Array.getD_eq_getD_getElem?, Array.getElem?_replicate]
      split <;> rfl
    rw [e]
    exact start
end

end Go.Proofs.YtkokfokcbhkcoaaFmt
