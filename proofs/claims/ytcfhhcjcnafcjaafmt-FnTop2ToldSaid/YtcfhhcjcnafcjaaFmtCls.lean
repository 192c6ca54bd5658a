/-
  Character classes as they lie in memory, and the contracts of Matches: dot, one character, a %-class, a range, a set. Their condition: the class lies in memory as told.
-/
import Derived.Test.YtcfhhcjcnafcjaaFmtSingle
import Derived.Test.YtcfhhcjcnafcjaaFmtMem
import Derived.Deep.RegionWith
import Derived.WalkLawsBesides
import Derived.Deep.LoopGhost
namespace Go.Proofs.YtcfhhcjcnafcjaaFmt
open Go.RowKit
set_option linter.unusedVariables false
set_option linter.unusedSimpArgs false

/-- An element of a set: one character, a %-class, a range. -/
inductive El where
  | chr (c : Int)
  | sgl (c : Int)
  | rng (b e : El)
/-- A class. -/
inductive Cl where
  | dot
  | el (e : El)
  | set (neg : Bool) (l : List El)

def El.has : El → Int → Bool
  | .chr c, ch => c == ch
  | .sgl c, ch => singB c ch
  | .rng (.chr b) (.chr e), ch => decide (b ≤ ch) && decide (ch ≤ e)
  | .rng _ _, _ => false
def Cl.has : Cl → Int → Bool
  | .dot, _ => true
  | .el e, ch => e.has ch
  | .set neg l, ch => if l.any (fun e => e.has ch) then !neg else neg

/-- The value v is the element in the world w; none of its blocks is one of X. -/
def ElAt (X : Nat → Prop) (w : World) : El → Value → Prop
  | .chr c, v => ∃ b, v = .iface 112 (.pointer (some ⟨b, 0, none⟩)) ∧ ¬ X b ∧ w.heap[b]? = some (.cells #[.int .i64 c] 114 (0, 0))
  | .sgl c, v => ∃ b, v = .iface 132 (.pointer (some ⟨b, 0, none⟩)) ∧ ¬ X b ∧ w.heap[b]? = some (.cells #[.int .i64 c] 134 (0, 0))
  | .rng x y, v => ∃ b vx vy, v = .iface 143 (.pointer (some ⟨b, 0, none⟩)) ∧ ¬ X b ∧ w.heap[b]? = some (.cells #[vx, vy] 145 (0, 0)) ∧ ElAt X w x vx ∧ ElAt X w y vy

theorem ElAt.kept {X Y : Nat → Prop} {w w' : World} : ∀ {e : El} {v : Value}, ElAt X w e v → (∀ k o, ¬ X k → w.heap[k]? = some o → w'.heap[k]? = some o) → (∀ k, k < w.heap.size → Y k → X k) → ElAt Y w' e v
  | .chr c, v, ⟨b, h1, h2, h3⟩, hk, hX => ⟨b, h1, fun hy => h2 (hX b (blk_lt h3) hy), hk b _ h2 h3⟩
  | .sgl c, v, ⟨b, h1, h2, h3⟩, hk, hX => ⟨b, h1, fun hy => h2 (hX b (blk_lt h3) hy), hk b _ h2 h3⟩
  | .rng x y, v, ⟨b, vx, vy, h1, h2, h3, h4, h5⟩, hk, hX => ⟨b, vx, vy, h1, fun hy => h2 (hX b (blk_lt h3) hy), hk b _ h2 h3, h4.kept hk hX, h5.kept hk hX⟩

/-- Elements one after the other. -/
inductive ElsAt (X : Nat → Prop) (w : World) : List El → List Value → Prop
  | nil : ElsAt X w [] []
  | cons {e v es vs} : ElAt X w e v → ElsAt X w es vs → ElsAt X w (e :: es) (v :: vs)

theorem ElsAt.kept {X Y : Nat → Prop} {w w' : World} {es : List El} {vs : List Value} (h : ElsAt X w es vs) (hk : ∀ k o, ¬ X k → w.heap[k]? = some o → w'.heap[k]? = some o) (hX : ∀ k, k < w.heap.size → Y k → X k) : ElsAt Y w' es vs := by
  induction h with
  | nil => exact .nil
  | cons h1 _ ih => exact .cons (h1.kept hk hX) ih
theorem ElsAt.length {X : Nat → Prop} {w : World} {es : List El} {vs : List Value} (h : ElsAt X w es vs) : vs.length = es.length := by
  induction h with
  | nil => rfl
  | cons _ _ ih => simp [ih]
theorem ElsAt.append {X : Nat → Prop} {w : World} {es fs : List El} {vs us : List Value} (h : ElsAt X w es vs) (k : ElsAt X w fs us) : ElsAt X w (es ++ fs) (vs ++ us) := by
  induction h with
  | nil => exact k
  | cons h1 _ ih => exact .cons h1 ih
theorem ElsAt.get {X : Nat → Prop} {w : World} {es : List El} {vs : List Value} (h : ElsAt X w es vs) : ∀ (i : Nat) (e : El), es[i]? = some e → ∃ v, vs[i]? = some v ∧ ElAt X w e v := by
  induction h with
  | nil => intro i e h; simp at h
  | cons h1 _ ih =>
    intro i e h
    cases i with
    | zero => simp at h; subst h; exact ⟨_, rfl, h1⟩
    | succ i => simpa using ih i e (by simpa using h)
theorem ElsAt.take {X : Nat → Prop} {w : World} {es : List El} {vs : List Value} (h : ElsAt X w es vs) : ∀ n, ElsAt X w (es.take n) (vs.take n) := by
  induction h with
  | nil => intro n; simpa using ElsAt.nil
  | cons h1 _ ih =>
    intro n
    cases n with
    | zero => exact .nil
    | succ n => exact .cons h1 (ih n)

/-- The value v is the class in the world w; none of its blocks is one of X. -/
def ClAt (X : Nat → Prop) (w : World) : Cl → Value → Prop
  | .dot, v => ∃ b, v = .iface 135 (.pointer (some ⟨b, 0, none⟩))
  | .el e, v => ElAt X w e v
  | .set neg l, v => ∃ b ao cap vs, v = .iface 139 (.pointer (some ⟨b, 0, none⟩)) ∧ ¬ X b ∧ w.heap[b]? = some (.cells #[.bool neg, .slice ao l.length cap] 142 (0, 0)) ∧
      w.ownsRow 0 97 1 (.slice ao l.length cap) l.length vs ∧ (∀ g, blkOf ao = some g → ¬ X g) ∧ ElsAt X w l vs

theorem owns_kept {w w' : World} {B : Nat} {T : TypeId} {sz : Nat} {ao : Option Addr} {n cap : Nat} {xs : List Value} (ho : w.ownsRow B T sz (.slice ao n cap) n xs) (hk : ∀ g o, blkOf ao = some g → w.heap[g]? = some o → w'.heap[g]? = some o) : w'.ownsRow B T sz (.slice ao n cap) n xs := by
  refine ⟨ho.1, ?_⟩
  rcases ho.2 with h2 | ⟨g, c, cur, h1, hb, hg, r⟩
  · exact .inl h2
  · refine .inr ⟨g, c, cur, h1, hb, hk g _ ?_ hg, r⟩
    simp only [Value.slice.injEq] at h1
    rw [h1.1]; rfl
theorem owns_lt {w : World} {B : Nat} {T : TypeId} {sz : Nat} {ao : Option Addr} {n cap : Nat} {xs : List Value} (ho : w.ownsRow B T sz (.slice ao n cap) n xs) : ∀ g, blkOf ao = some g → B ≤ g ∧ g < w.heap.size := by
  intro g hg
  rcases ho.2 with ⟨h1, h2⟩ | ⟨g', c', cur, h1, hb, hh, _⟩
  · simp only [Value.slice.injEq] at h1; rw [h1.1] at hg; simp [blkOf] at hg
  · simp only [Value.slice.injEq] at h1
    rw [h1.1] at hg
    simp only [blkOf, Option.map_some, Option.some.injEq] at hg
    subst hg
    exact ⟨hb, blk_lt hh⟩

theorem ClAt.kept {X Y : Nat → Prop} {w w' : World} {c : Cl} {v : Value} (h : ClAt X w c v) (hk : ∀ k o, ¬ X k → w.heap[k]? = some o → w'.heap[k]? = some o) (hX : ∀ k, k < w.heap.size → Y k → X k) : ClAt Y w' c v := by
  cases c with
  | dot => exact h
  | el e => exact ElAt.kept h hk hX
  | set neg l =>
    obtain ⟨b, ao, cap, vs, h1, h2, h3, h4, h5, h6⟩ := h
    exact ⟨b, ao, cap, vs, h1, fun hy => h2 (hX b (blk_lt h3) hy), hk b _ h2 h3, owns_kept h4 (fun g o hg ho => hk g o (h5 g hg) ho), fun g hg hy => h5 g hg (hX g (owns_lt h4 g hg).2 hy), h6.kept hk hX⟩

/-! ### Matches, class by class -/

theorem dotM_any (a : Option Addr) (ch : Int) (w : World) :
    Calls Tryf.prog 59 #[.pointer a, .int .i64 ch] w fun e w' => e = .returned (.bool true) ∧ w = w' := by
  go_enter Tryf.func59, Tryf.ntmps59
  go_wp2
  go_ret
  exact ⟨rfl, rfl⟩

theorem chrM_any {b : Nat} {c : Int} (ch : Int) {w : World} (hc : w.cell? ⟨b, 0, none⟩ = some (.int .i64 c)) :
    Calls Tryf.prog 57 #[.pointer (some ⟨b, 0, none⟩), .int .i64 ch] w fun e w' => e = .returned (.bool (c == ch)) ∧ w = w' := by
  go_enter Tryf.func57, Tryf.ntmps57
  go_wp2
  go_ret
  exact ⟨rfl, rfl⟩

end Go.Proofs.YtcfhhcjcnafcjaaFmt
