/-
  Helpers for the contract of compilePattern: type assertions, the class's form, cells of a new block, an append with its store. Conditions as each states.
-/
import Derived.Test.YtejankffdmahnaaFmtComp
import Derived.Test.YtejankffdmahnaaFmtPpDefs
import Derived.Deep.LoopGhost
namespace Go.Proofs.YtejankffdmahnaaFmt
open Go.RowKit
set_option linter.unusedVariables false
set_option linter.unusedSimpArgs false

@[go_sem] theorem ta_single_seq (v : Value) (w : World) : (Instr.typeAssert (.iface 81 v) 76 56 true).run Tryf.prog w = .ok (.tuple #[.pointer none, .bool false]) w := by kernel_rfl
@[go_sem] theorem ta_single_rep (v : Value) (w : World) : (Instr.typeAssert (.iface 81 v) 76 87 true).run Tryf.prog w = .ok (.tuple #[.pointer none, .bool false]) w := by kernel_rfl
@[go_sem] theorem ta_single_pos (v : Value) (w : World) : (Instr.typeAssert (.iface 81 v) 76 90 true).run Tryf.prog w = .ok (.tuple #[.pointer none, .bool false]) w := by kernel_rfl
@[go_sem] theorem ta_single_cap (v : Value) (w : World) : (Instr.typeAssert (.iface 81 v) 76 91 true).run Tryf.prog w = .ok (.tuple #[.pointer none, .bool false]) w := by kernel_rfl
@[go_sem] theorem ta_single_brace (v : Value) (w : World) : (Instr.typeAssert (.iface 81 v) 76 94 true).run Tryf.prog w = .ok (.tuple #[.pointer none, .bool false]) w := by kernel_rfl
@[go_sem] theorem ta_single_num (v : Value) (w : World) : (Instr.typeAssert (.iface 81 v) 76 97 true).run Tryf.prog w = .ok (.tuple #[.pointer none, .bool false]) w := by kernel_rfl
@[go_sem] theorem ta_seq_single (v : Value) (w : World) : (Instr.typeAssert (.iface 56 v) 76 81 true).run Tryf.prog w = .ok (.tuple #[.pointer none, .bool false]) w := by kernel_rfl
@[go_sem] theorem ta_seq_seq (v : Value) (w : World) : (Instr.typeAssert (.iface 56 v) 76 56 true).run Tryf.prog w = .ok (.tuple #[v, .bool true]) w := by kernel_rfl
@[go_sem] theorem ta_seq_rep (v : Value) (w : World) : (Instr.typeAssert (.iface 56 v) 76 87 true).run Tryf.prog w = .ok (.tuple #[.pointer none, .bool false]) w := by kernel_rfl
@[go_sem] theorem ta_seq_pos (v : Value) (w : World) : (Instr.typeAssert (.iface 56 v) 76 90 true).run Tryf.prog w = .ok (.tuple #[.pointer none, .bool false]) w := by kernel_rfl
@[go_sem] theorem ta_seq_cap (v : Value) (w : World) : (Instr.typeAssert (.iface 56 v) 76 91 true).run Tryf.prog w = .ok (.tuple #[.pointer none, .bool false]) w := by kernel_rfl
@[go_sem] theorem ta_seq_brace (v : Value) (w : World) : (Instr.typeAssert (.iface 56 v) 76 94 true).run Tryf.prog w = .ok (.tuple #[.pointer none, .bool false]) w := by kernel_rfl
@[go_sem] theorem ta_seq_num (v : Value) (w : World) : (Instr.typeAssert (.iface 56 v) 76 97 true).run Tryf.prog w = .ok (.tuple #[.pointer none, .bool false]) w := by kernel_rfl
@[go_sem] theorem ta_rep_seq (v : Value) (w : World) : (Instr.typeAssert (.iface 87 v) 76 56 true).run Tryf.prog w = .ok (.tuple #[.pointer none, .bool false]) w := by kernel_rfl
@[go_sem] theorem ta_rep_rep (v : Value) (w : World) : (Instr.typeAssert (.iface 87 v) 76 87 true).run Tryf.prog w = .ok (.tuple #[v, .bool true]) w := by kernel_rfl
@[go_sem] theorem ta_rep_pos (v : Value) (w : World) : (Instr.typeAssert (.iface 87 v) 76 90 true).run Tryf.prog w = .ok (.tuple #[.pointer none, .bool false]) w := by kernel_rfl
@[go_sem] theorem ta_rep_cap (v : Value) (w : World) : (Instr.typeAssert (.iface 87 v) 76 91 true).run Tryf.prog w = .ok (.tuple #[.pointer none, .bool false]) w := by kernel_rfl
@[go_sem] theorem ta_rep_brace (v : Value) (w : World) : (Instr.typeAssert (.iface 87 v) 76 94 true).run Tryf.prog w = .ok (.tuple #[.pointer none, .bool false]) w := by kernel_rfl
@[go_sem] theorem ta_rep_num (v : Value) (w : World) : (Instr.typeAssert (.iface 87 v) 76 97 true).run Tryf.prog w = .ok (.tuple #[.pointer none, .bool false]) w := by kernel_rfl
@[go_sem] theorem ta_pos_seq (v : Value) (w : World) : (Instr.typeAssert (.iface 90 v) 76 56 true).run Tryf.prog w = .ok (.tuple #[.pointer none, .bool false]) w := by kernel_rfl
@[go_sem] theorem ta_pos_rep (v : Value) (w : World) : (Instr.typeAssert (.iface 90 v) 76 87 true).run Tryf.prog w = .ok (.tuple #[.pointer none, .bool false]) w := by kernel_rfl
@[go_sem] theorem ta_pos_pos (v : Value) (w : World) : (Instr.typeAssert (.iface 90 v) 76 90 true).run Tryf.prog w = .ok (.tuple #[v, .bool true]) w := by kernel_rfl
@[go_sem] theorem ta_pos_cap (v : Value) (w : World) : (Instr.typeAssert (.iface 90 v) 76 91 true).run Tryf.prog w = .ok (.tuple #[.pointer none, .bool false]) w := by kernel_rfl
@[go_sem] theorem ta_pos_brace (v : Value) (w : World) : (Instr.typeAssert (.iface 90 v) 76 94 true).run Tryf.prog w = .ok (.tuple #[.pointer none, .bool false]) w := by kernel_rfl
@[go_sem] theorem ta_pos_num (v : Value) (w : World) : (Instr.typeAssert (.iface 90 v) 76 97 true).run Tryf.prog w = .ok (.tuple #[.pointer none, .bool false]) w := by kernel_rfl
@[go_sem] theorem ta_cap_seq (v : Value) (w : World) : (Instr.typeAssert (.iface 91 v) 76 56 true).run Tryf.prog w = .ok (.tuple #[.pointer none, .bool false]) w := by kernel_rfl
@[go_sem] theorem ta_cap_rep (v : Value) (w : World) : (Instr.typeAssert (.iface 91 v) 76 87 true).run Tryf.prog w = .ok (.tuple #[.pointer none, .bool false]) w := by kernel_rfl
@[go_sem] theorem ta_cap_pos (v : Value) (w : World) : (Instr.typeAssert (.iface 91 v) 76 90 true).run Tryf.prog w = .ok (.tuple #[.pointer none, .bool false]) w := by kernel_rfl
@[go_sem] theorem ta_cap_cap (v : Value) (w : World) : (Instr.typeAssert (.iface 91 v) 76 91 true).run Tryf.prog w = .ok (.tuple #[v, .bool true]) w := by kernel_rfl
@[go_sem] theorem ta_cap_brace (v : Value) (w : World) : (Instr.typeAssert (.iface 91 v) 76 94 true).run Tryf.prog w = .ok (.tuple #[.pointer none, .bool false]) w := by kernel_rfl
@[go_sem] theorem ta_cap_num (v : Value) (w : World) : (Instr.typeAssert (.iface 91 v) 76 97 true).run Tryf.prog w = .ok (.tuple #[.pointer none, .bool false]) w := by kernel_rfl
@[go_sem] theorem ta_brace_seq (v : Value) (w : World) : (Instr.typeAssert (.iface 94 v) 76 56 true).run Tryf.prog w = .ok (.tuple #[.pointer none, .bool false]) w := by kernel_rfl
@[go_sem] theorem ta_brace_rep (v : Value) (w : World) : (Instr.typeAssert (.iface 94 v) 76 87 true).run Tryf.prog w = .ok (.tuple #[.pointer none, .bool false]) w := by kernel_rfl
@[go_sem] theorem ta_brace_pos (v : Value) (w : World) : (Instr.typeAssert (.iface 94 v) 76 90 true).run Tryf.prog w = .ok (.tuple #[.pointer none, .bool false]) w := by kernel_rfl
@[go_sem] theorem ta_brace_cap (v : Value) (w : World) : (Instr.typeAssert (.iface 94 v) 76 91 true).run Tryf.prog w = .ok (.tuple #[.pointer none, .bool false]) w := by kernel_rfl
@[go_sem] theorem ta_brace_brace (v : Value) (w : World) : (Instr.typeAssert (.iface 94 v) 76 94 true).run Tryf.prog w = .ok (.tuple #[v, .bool true]) w := by kernel_rfl
@[go_sem] theorem ta_brace_num (v : Value) (w : World) : (Instr.typeAssert (.iface 94 v) 76 97 true).run Tryf.prog w = .ok (.tuple #[.pointer none, .bool false]) w := by kernel_rfl
@[go_sem] theorem ta_num_seq (v : Value) (w : World) : (Instr.typeAssert (.iface 97 v) 76 56 true).run Tryf.prog w = .ok (.tuple #[.pointer none, .bool false]) w := by kernel_rfl
@[go_sem] theorem ta_num_rep (v : Value) (w : World) : (Instr.typeAssert (.iface 97 v) 76 87 true).run Tryf.prog w = .ok (.tuple #[.pointer none, .bool false]) w := by kernel_rfl
@[go_sem] theorem ta_num_pos (v : Value) (w : World) : (Instr.typeAssert (.iface 97 v) 76 90 true).run Tryf.prog w = .ok (.tuple #[.pointer none, .bool false]) w := by kernel_rfl
@[go_sem] theorem ta_num_cap (v : Value) (w : World) : (Instr.typeAssert (.iface 97 v) 76 91 true).run Tryf.prog w = .ok (.tuple #[.pointer none, .bool false]) w := by kernel_rfl
@[go_sem] theorem ta_num_brace (v : Value) (w : World) : (Instr.typeAssert (.iface 97 v) 76 94 true).run Tryf.prog w = .ok (.tuple #[.pointer none, .bool false]) w := by kernel_rfl
@[go_sem] theorem ta_num_num (v : Value) (w : World) : (Instr.typeAssert (.iface 97 v) 76 97 true).run Tryf.prog w = .ok (.tuple #[v, .bool true]) w := by kernel_rfl

theorem ClAt.iface {X : Nat → Prop} {w : World} {c : Cl} {v : Value} (h : ClAt X w c v) : ∃ T a, v = .iface T (.pointer a) := by
  cases c with
  | dot => obtain ⟨b, rfl⟩ := h; exact ⟨_, _, rfl⟩
  | el e => exact ElAt.form h
  | set neg l => obtain ⟨b, ao, cap, vs, rfl, _⟩ := h; exact ⟨_, _, rfl⟩
theorem news_n {W : World} {l : List Value} {T : TypeId} {n : Nat} (h : W.heap.size = n) : ∀ (j : Nat) (u : Value), l[j]? = some u → (W.alloc (.cells l.toArray T)).cell? ((⟨n, 0, none⟩ : Addr).add j) = some u := by
  subst h
  intro j u hj
  rw [addr_add, Nat.zero_add]
  exact blk_cell (blk_new _ _) j _ (by simpa using hj)
theorem news_nd {W : World} {l : List Value} {T : TypeId} {n : Nat} (h : W.heap.size = n) : ∀ (j : Nat) (u : Value), l[j]? = some u → ((W.alloc (.cells l.toArray T)).drew).cell? ((⟨n, 0, none⟩ : Addr).add j) = some u := news_n h

/-- What a call of the compiler over one item needs and does. -/
def CompSpec (p : Pt) : Prop := ∀ (w : World) (v : Value) (m g : Nat) (ao : Option Addr) (cap : Nat) (I : List Ins) (k : Nat) (xs : List Value) (I' : List Ins) (k' : Nat),
  CompO w m ao cap I k xs → PtsAt (CX m ao) w [p] [v] → w.cell? ⟨g, 0, none⟩ = some (.pointer (some ⟨m, 0, none⟩)) → CRun [p] I k I' k' → I'.length ≤ 16777216 → k' ≤ 1073741824 →
  Calls Tryf.prog 18 #[v, .slice (some ⟨g, 0, none⟩) 1 1] w (CompPost w m ao I' k')
/-- The same over a sequence at block q. -/
def SeqSpec (l : List Pt) : Prop := ∀ (w : World) (m g q : Nat) (must tail : Bool) (aq : Option Addr) (capq : Nat) (us : List Value) (ao : Option Addr) (cap : Nat) (I : List Ins) (k : Nat) (xs : List Value) (I' : List Ins) (k' : Nat),
  CompO w m ao cap I k xs → w.heap[q]? = some (.cells #[.bool must, .bool tail, .slice aq l.length capq] 86 (0, 0)) → ¬ CX m ao q → w.ownsRow 0 76 1 (.slice aq l.length capq) l.length us → (∀ gg, blkOf aq = some gg → ¬ CX m ao gg) → PtsAt (CX m ao) w l us →
  w.cell? ⟨g, 0, none⟩ = some (.pointer (some ⟨m, 0, none⟩)) → CRun l I k I' k' → I'.length ≤ 16777216 → k' ≤ 1073741824 →
  Calls Tryf.prog 18 #[.iface 56 (.pointer (some ⟨q, 0, none⟩)), .slice (some ⟨g, 0, none⟩) 1 1] w (CompPost w m ao I' k')
/-- One of the items. -/
theorem PtsAt.get {X : Nat → Prop} {w : World} {ps : List Pt} {vs : List Value} (h : PtsAt X w ps vs) (i : Nat) (hi : i < ps.length) : ∃ v, vs[i]? = some v ∧ PtsAt X w [ps[i]] [v] := by
  have e : ps = ps.take i ++ ([ps[i]] ++ ps.drop (i + 1)) := by
    rw [List.singleton_append, ← List.drop_eq_getElem_cons hi, List.take_append_drop]
  generalize hp : ps[i] = p at e ⊢
  have hl : (ps.take i).length = i := by rw [List.length_take]; omega
  rw [e] at h
  obtain ⟨us, ts, rfl, _, h2⟩ := PtsAt.split (ps.take i) h
  obtain ⟨a, b, rfl, h3, _⟩ := PtsAt.split [p] h2
  have h1 : us.length = i := by rename_i h1 _ ; rw [h1.length, hl]
  have h4 := h3.length
  match a, h4 with
  | [v], _ => exact ⟨v, by rw [List.getElem?_append_right (by omega), h1, Nat.sub_self]; rfl, h3⟩
theorem Moved.row0 {w w' : World} {m : Nat} {ao ao' : Option Addr} (h : Moved w w' m ao ao') {e : TypeId} {sz : Nat} {aq : Option Addr} {n cap : Nat} {xs : List Value} (ho : w.ownsRow 0 e sz (.slice aq n cap) n xs) (hX : ∀ g, blkOf aq = some g → ¬ CX m ao g) : w'.ownsRow 0 e sz (.slice aq n cap) n xs :=
  owns_kept ho (fun g o hg hh => h.keeps g o (hX g hg) hh)
theorem Moved.notX {w w' : World} {m : Nat} {ao ao' : Option Addr} (h : Moved w w' m ao ao') {q : Nat} (hq : q < w.heap.size) (hX : ¬ CX m ao q) : ¬ CX m ao' q := fun hx => hX (h.back q hq hx)
theorem comp_drew {w : World} {m : Nat} {ao : Option Addr} {cap : Nat} {I : List Ins} {k : Nat} {xs : List Value} (h : CompO w m ao cap I k xs) : CompO w.drew m ao cap I k xs := h.drewN 1
/-- An append behind new blocks: the state and what it leaves. -/
theorem comp_push {w0 w w3 : World} {m g1 c1 H n : Nat} {ao : Option Addr} {cap : Nat} {I J : List Ins} {k : Nat} {xs news : List Value} {ao0 : Option Addr} (hm0 : Moved w0 w m ao0 ao) (h : CompO w m ao cap I k xs) (hj : InssAt (CX m ao) w J news) (hn : J.length = n)
    (hgrow : w.grownBy w3 (Value.slice ao I.length cap).ownBlock) (hown : w3.ownsRow 0 39 4 (.slice (some ⟨g1, 0, none⟩) (I.length + n) c1) (I.length + n) (xs ++ news)) (hat : (Value.slice ao I.length cap).ownBlock = some g1 ∨ g1 = H) (hH : w.heap.size ≤ H := by simp) :
    CompO (w3.setCell ⟨m, 0, none⟩ (.slice (some ⟨g1, 0, none⟩) (I.length + n) c1)) m (some ⟨g1, 0, none⟩) c1 (I ++ J) k (xs ++ news) ∧ Moved w0 (w3.setCell ⟨m, 0, none⟩ (.slice (some ⟨g1, 0, none⟩) (I.length + n) c1)) m ao0 (some ⟨g1, 0, none⟩) := by
  rw [ownBlock_slice] at hgrow hat
  obtain ⟨h1, h2⟩ := h.push hj hn hgrow hown (hat.imp id (fun e => by omega))
  exact ⟨h1, hm0.trans h2⟩
theorem compPost_mk {w w' : World} {m : Nat} {ao ao' : Option Addr} {cap' : Nat} {I' : List Ins} {k' L : Nat} {xs' : List Value} (hL : I'.length = L) (h1 : CompO w' m ao' cap' I' k' xs') (h2 : Moved w w' m ao ao') : CompPost w m ao I' k' (.returned (.slice ao' L cap')) w' := by
  subst hL
  exact ⟨_, _, _, rfl, h1, h2⟩
theorem comp_k {w : World} {m : Nat} {ao : Option Addr} {cap : Nat} {I : List Ins} {k k' : Nat} {xs : List Value} {z : Int} (h : CompO w m ao cap I k xs) (hz : z = (k' : Int)) : CompO (w.setCell ⟨m, 1, none⟩ (.int .i64 z)) m ao cap I k' xs := by
  subst hz
  exact h.setK k'

end Go.Proofs.YtejankffdmahnaaFmt
