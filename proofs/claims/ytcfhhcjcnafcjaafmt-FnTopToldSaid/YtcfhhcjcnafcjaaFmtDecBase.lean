/-
  The decoder's state, what stays so; bump; definitions for closeOne. Conditions as each statement says.
-/
import Derived.Test.YtcfhhcjcnafcjaaFmtRdCls
import Derived.StillTailTactics
import Derived.Deep.RegionLaw
import Derived.Deep.AppendLies
import Derived.Deep.CutRange
import Derived.Deep.DeepCutAuto
namespace Go.Proofs.YtcfhhcjcnafcjaaFmt
open Go.RowKit
set_option linter.unusedVariables false
set_option linter.unusedSimpArgs false


theorem below_grown {B : Nat} {a w w1 : World} {row : Option Nat} (h : Below B a w) (hB : B ≤ a.heap.size) (hg : w.grownBy w1 row) (hr : ∀ g, row = some g → B ≤ g) : Below B a w1 :=
  ⟨hg.os.trans h.os, hg.tape.trans h.tape, hg.output.trans h.output, Nat.le_trans h.size hg.size, fun i hi => (hg.block i (Nat.lt_of_lt_of_le hi (Nat.le_trans hB h.size)) (fun e => by have := hr i e.symm; omega)).trans (h.block i hi)⟩
/-- A row: where it lies, its room, how many, its cells. -/
structure Rw where
  ao : Option Addr
  cap : Nat
  n : Nat
  xs : List Value
def Rw.sl (r : Rw) : Value := .slice r.ao r.n r.cap
def rTy : Fin 6 → TypeId
  | 0 => 5
  | 1 => 59
  | 2 => 4
  | _ => 3
def rSz : Fin 6 → Nat
  | 1 => 8
  | _ => 1
/-- Where a row's field lies. -/
def fAt (p d : Nat) : Fin 6 → Addr
  | 0 => ⟨p, 0, none⟩
  | 1 => ⟨p, 1, none⟩
  | 2 => ⟨p, 5, none⟩
  | 3 => ⟨d, 1, none⟩
  | 4 => ⟨d, 2, none⟩
  | 5 => ⟨d, 3, none⟩
def upd (R : Fin 6 → Rw) (i : Fin 6) (r : Rw) : Fin 6 → Rw := fun j => if j = i then r else R j
theorem upd_same (R : Fin 6 → Rw) (i : Fin 6) (r : Rw) : upd R i r i = r := by simp [upd]
theorem upd_ne (R : Fin 6 → Rw) (i : Fin 6) (r : Rw) {j : Fin 6} (h : j ≠ i) : upd R i r j = R j := by simp [upd, h]
structure DecS (w0 w : World) (B r p d : Nat) (an tl : Bool) (nc : Nat) (R : Fin 6 → Rw) (ts : List Tk) : Prop where
  pblk : w.heap[p]? = some (.cells #[.slice (R 0).ao (R 0).n (R 0).cap, .slice (R 1).ao (R 1).n (R 1).cap, .bool an, .bool tl, .int .i64 (nc : Int), .slice (R 2).ao (R 2).n (R 2).cap] 35 (0, 0))
  dblk : w.heap[d]? = some (.cells #[.pointer (some ⟨p, 0, none⟩), .slice (R 3).ao (R 3).n (R 3).cap, .slice (R 4).ao (R 4).n (R 4).cap, .slice (R 5).ao (R 5).n (R 5).cap] 53 (0, 0))
  own : ∀ i, w.ownsRow B (rTy i) (rSz i) (.slice (R i).ao (R i).n (R i).cap) (R i).n (R i).xs
  dis : ∀ i j, i ≠ j → ∀ g, blkOf (R i).ao = some g → blkOf (R j).ao ≠ some g
  hp : B ≤ p
  hd : B ≤ d
  toks : TksAt w B ts (R 1).xs
  rd : RdAt w B r
  bel : Below B w0 w
  hB : B ≤ w0.heap.size
theorem rTy_pat (i : Fin 6) : rTy i ≠ 35 ∧ rTy i ≠ 53 ∧ rTy i ≠ 50 ∧ rTy i ≠ 84 := by
  match i with
  | 0 => decide
  | 1 => decide
  | 2 => decide
  | 3 => decide
  | 4 => decide
  | 5 => decide
section
variable {w0 w w' : World} {B r p d nc : Nat} {an tl : Bool} {R : Fin 6 → Rw} {ts : List Tk}
theorem DecS.pd (h : DecS w0 w B r p d an tl nc R ts) : p ≠ d := type_ne h.pblk h.dblk (by decide)
theorem DecS.rblk (h : DecS w0 w B r p d an tl nc R ts) : ∃ cs, w.heap[r]? = some (.cells cs 50 (0, 0)) := by
  obtain ⟨_, _, _, _, h1, _⟩ := h.rd
  exact ⟨_, h1⟩
theorem DecS.Bw (h : DecS w0 w B r p d an tl nc R ts) : B ≤ w.heap.size := Nat.le_trans h.hB h.bel.size
/-- Whatever leaves the state's own blocks, the items and all below B leaves the state. -/
theorem DecS.kept (h : DecS w0 w B r p d an tl nc R ts) (hp : w'.heap[p]? = w.heap[p]?) (hd : w'.heap[d]? = w.heap[d]?) (hr : w'.heap[r]? = w.heap[r]?) (ho : ∀ i g, blkOf (R i).ao = some g → w'.heap[g]? = w.heap[g]?) (hi : ItsKept w w' B) (hb : Below B w0 w') : DecS w0 w' B r p d an tl nc R ts :=
  ⟨hp.trans h.pblk, hd.trans h.dblk, fun i => owns_kept (h.own i) (fun g o hg h1 => (ho i g hg).trans h1), h.dis, h.hp, h.hd, h.toks.kept hi, h.rd.kept hr (fun k hk => by rw [hb.block k hk, h.bel.block k hk]), hb, h.hB⟩
theorem DecS.alloc (h : DecS w0 w B r p d an tl nc R ts) (o : Obj) : DecS w0 (w.alloc o) B r p d an tl nc R ts := by
  obtain ⟨cs, hr⟩ := h.rblk
  exact h.kept (Below.heap_alloc w o p (blk_lt h.pblk)) (Below.heap_alloc w o d (blk_lt h.dblk)) (Below.heap_alloc w o r (blk_lt hr)) (fun i g hg => Below.heap_alloc w o g (owns_lt (h.own i) g hg).2) (fun g cs r _ h1 => blk_alloc h1 o) (h.bel.alloc h.Bw o)
theorem DecS.drewN (h : DecS w0 w B r p d an tl nc R ts) (q : Nat) : DecS w0 (w.drewN q) B r p d an tl nc R ts :=
  h.kept rfl rfl rfl (fun _ _ _ => rfl) (fun _ _ _ _ h => h) (below_drewN h.bel q)
theorem DecS.drew (h : DecS w0 w B r p d an tl nc R ts) : DecS w0 w.drew B r p d an tl nc R ts := h.drewN 1
/-- A call that moves the reader. -/
theorem DecS.call (h : DecS w0 w B r p d an tl nc R ts) (hg : w.grownBy w' (some r)) (hr : RdAt w' B r) : DecS w0 w' B r p d an tl nc R ts := by
  obtain ⟨cs, hrb⟩ := h.rblk
  have hBr : B ≤ r := by obtain ⟨_, _, _, _, _, _, _, _, _, h1, _⟩ := h.rd; exact h1
  have key : ∀ g c T q, w.heap[g]? = some (Obj.cells c T q) → T ≠ 50 → w'.heap[g]? = w.heap[g]? := fun g c T q hgc hT =>
    hg.block g (blk_lt hgc) (fun e => by injection e with e; exact type_ne hgc hrb hT e)
  refine ⟨(key p _ _ _ h.pblk (by decide)).trans h.pblk, (key d _ _ _ h.dblk (by decide)).trans h.dblk, fun i => owns_kept (h.own i) (fun g o hgg h1 => ?_), h.dis, h.hp, h.hd, h.toks.kept (fun g cs q _ h1 => (key g _ _ _ h1 (by decide)).trans h1), hr, ?_, h.hB⟩
  · obtain ⟨c, hc⟩ := own_type (h.own i) g hgg
    exact (key g _ _ _ hc (rTy_pat i).2.2.1).trans h1
  · exact below_grown h.bel h.hB hg (fun g e => by injection e with e; omega)
/-- The next capture's number. -/
theorem DecS.setNc (h : DecS w0 w B r p d an tl nc R ts) (k : Nat) : DecS w0 (w.setCell ⟨p, 4, none⟩ (.int .i64 (k : Int))) B r p d an tl k R ts := by
  obtain ⟨cs, hrb⟩ := h.rblk
  have key : ∀ g c T q, w.heap[g]? = some (Obj.cells c T q) → T ≠ 35 → (w.setCell ⟨p, 4, none⟩ (.int .i64 (k : Int))).heap[g]? = w.heap[g]? := fun g c T q hgc hT =>
    Below.heap_setCell w ⟨p, 4, none⟩ _ g (type_ne hgc h.pblk hT)
  have hb := h.bel.setCell (p := ⟨p, 4, none⟩) h.hp (.int .i64 (k : Int))
  refine ⟨blk_set h.pblk 4 _, (key d _ _ _ h.dblk (by decide)).trans h.dblk, fun i => owns_kept (h.own i) (fun g o hgg h1 => ?_), h.dis, h.hp, h.hd, h.toks.kept (fun g cs q _ h1 => (key g _ _ _ h1 (by decide)).trans h1), h.rd.kept (key r _ _ _ hrb (by decide)) (fun k hk => by rw [hb.block k hk, h.bel.block k hk]), hb, h.hB⟩
  obtain ⟨c, hc⟩ := own_type (h.own i) g hgg
  exact (key g _ _ _ hc (rTy_pat i).1).trans h1
/-- A store into a row. -/
theorem DecS.poke (h : DecS w0 w B r p d an tl nc R ts) {i : Fin 6} (hi : i ≠ 1) {g : Nat} (hg : (R i).ao = some ⟨g, 0, none⟩) (k : Nat) (v : Value) : DecS w0 (w.setCell ⟨g, k, none⟩ v) B r p d an tl nc (upd R i ⟨(R i).ao, (R i).cap, (R i).n, (R i).xs.set k v⟩) ts := by
  obtain ⟨cs, hrb⟩ := h.rblk
  have hbo : blkOf (R i).ao = some g := by rw [hg]; rfl
  obtain ⟨cg, hcg⟩ := own_type (h.own i) g hbo
  have key : ∀ x c T q, w.heap[x]? = some (Obj.cells c T q) → rTy i ≠ T → (w.setCell ⟨g, k, none⟩ v).heap[x]? = w.heap[x]? := fun x c T q hgc hT =>
    Below.heap_setCell w ⟨g, k, none⟩ _ x (fun e => type_ne hcg hgc hT e.symm)
  have hb := h.bel.setCell (p := ⟨g, k, none⟩) (owns_lt (h.own i) g hbo).1 v
  have e0 : ∀ j, ((upd R i ⟨(R i).ao, (R i).cap, (R i).n, (R i).xs.set k v⟩) j).ao = (R j).ao ∧ ((upd R i ⟨(R i).ao, (R i).cap, (R i).n, (R i).xs.set k v⟩) j).n = (R j).n ∧ ((upd R i ⟨(R i).ao, (R i).cap, (R i).n, (R i).xs.set k v⟩) j).cap = (R j).cap := fun j => by
    unfold upd
    split
    · subst_vars; exact ⟨rfl, rfl, rfl⟩
    · exact ⟨rfl, rfl, rfl⟩
  refine ⟨?_, ?_, fun j => ?_, fun a b hab x => ?_, h.hp, h.hd, ?_, h.rd.kept (key r _ _ _ hrb (rTy_pat i).2.2.1) (fun k hk => by rw [hb.block k hk, h.bel.block k hk]), hb, h.hB⟩
  · rw [(e0 0).1, (e0 0).2.1, (e0 0).2.2, (e0 1).1, (e0 1).2.1, (e0 1).2.2, (e0 2).1, (e0 2).2.1, (e0 2).2.2]
    exact (key p _ _ _ h.pblk (rTy_pat i).1).trans h.pblk
  · rw [(e0 3).1, (e0 3).2.1, (e0 3).2.2, (e0 4).1, (e0 4).2.1, (e0 4).2.2, (e0 5).1, (e0 5).2.1, (e0 5).2.2]
    exact (key d _ _ _ h.dblk (rTy_pat i).2.1).trans h.dblk
  · by_cases hj : j = i
    · subst hj
      rw [upd_same]
      have h1 := h.own j
      rw [hg] at h1 ⊢
      exact (World.ownsRow.stored h1 k v).1
    · rw [upd_ne _ _ _ hj]
      exact owns_kept (h.own j) (fun x o hx h1 => (Below.heap_setCell w ⟨g, k, none⟩ v x (fun e => h.dis j i hj x hx (by rw [hbo, e]))).trans h1)
  · rw [(e0 a).1, (e0 b).1]; exact h.dis a b hab x
  · rw [upd_ne _ _ _ (Ne.symm hi)]
    exact h.toks.kept (fun x cs q _ h1 => (key x _ _ _ h1 (rTy_pat i).2.2.2).trans h1)
theorem upd_field (R : Fin 6 → Rw) (i j : Fin 6) (x : Rw) (h : j ≠ i) : ((upd R i x) j).ao = (R j).ao ∧ ((upd R i x) j).n = (R j).n ∧ ((upd R i x) j).cap = (R j).cap := by
  rw [upd_ne _ _ _ h]; exact ⟨rfl, rfl, rfl⟩
/-- The field of a row is stored anew. -/
theorem DecS.field {i : Fin 6} {x : Rw} (hpb : w.heap[p]? = some (.cells #[.slice (R 0).ao (R 0).n (R 0).cap, .slice (R 1).ao (R 1).n (R 1).cap, .bool an, .bool tl, .int .i64 (nc : Int), .slice (R 2).ao (R 2).n (R 2).cap] 35 (0, 0)))
    (hdb : w.heap[d]? = some (.cells #[.pointer (some ⟨p, 0, none⟩), .slice (R 3).ao (R 3).n (R 3).cap, .slice (R 4).ao (R 4).n (R 4).cap, .slice (R 5).ao (R 5).n (R 5).cap] 53 (0, 0)))
    (hown : w.ownsRow B (rTy i) (rSz i) (.slice x.ao x.n x.cap) x.n x.xs) (hoth : ∀ j, j ≠ i → w.ownsRow B (rTy j) (rSz j) (.slice (R j).ao (R j).n (R j).cap) (R j).n (R j).xs)
    (hd0 : ∀ j k, j ≠ i → k ≠ i → j ≠ k → ∀ g, blkOf (R j).ao = some g → blkOf (R k).ao ≠ some g) (hd1 : ∀ j, j ≠ i → ∀ g, blkOf (R j).ao = some g → blkOf x.ao ≠ some g)
    (hp : B ≤ p) (hd : B ≤ d) (htk : TksAt w B ts (upd R i x 1).xs) (hrd : RdAt w B r) (hb : Below B w0 w) (hB : B ≤ w0.heap.size) :
    DecS w0 (w.setCell (fAt p d i) (.slice x.ao x.n x.cap)) B r p d an tl nc (upd R i x) ts := by
  obtain ⟨_, _, _, _, hrb, _⟩ := id hrd
  have hpd : p ≠ d := type_ne hpb hdb (by decide)
  have hbk : (fAt p d i).block = p ∨ (fAt p d i).block = d := by
    match i with
    | 0 => exact .inl rfl
    | 1 => exact .inl rfl
    | 2 => exact .inl rfl
    | 3 => exact .inr rfl
    | 4 => exact .inr rfl
    | 5 => exact .inr rfl
  have key : ∀ g c T q, w.heap[g]? = some (Obj.cells c T q) → T ≠ 35 → T ≠ 53 → (w.setCell (fAt p d i) (.slice x.ao x.n x.cap)).heap[g]? = w.heap[g]? := fun g c T q hgc h1 h2 =>
    Below.heap_setCell w _ _ g (by
      rcases hbk with e | e
      · rw [e]; exact type_ne hgc hpb h1
      · rw [e]; exact type_ne hgc hdb h2)
  have hb' := hb.setCell (p := fAt p d i) (by rcases hbk with e | e <;> rw [e] <;> assumption) (.slice x.ao x.n x.cap)
  have rows : ∀ {j : Fin 6} {n cap : Nat} {ao : Option Addr} {xs : List Value}, w.ownsRow B (rTy j) (rSz j) (.slice ao n cap) n xs → (w.setCell (fAt p d i) (.slice x.ao x.n x.cap)).ownsRow B (rTy j) (rSz j) (.slice ao n cap) n xs := @fun j n cap ao xs ho => owns_kept ho (fun g o hg h1 => by
    obtain ⟨c, hc⟩ := own_type ho g hg
    exact (key g _ _ _ hc (rTy_pat j).1 (rTy_pat j).2.1).trans h1)
  refine ⟨?_, ?_, fun j => ?_, fun a b hab g hga => ?_, hp, hd, htk.kept (fun g cs q _ h1 => (key g _ _ _ h1 (by decide) (by decide)).trans h1), hrd.kept (key r _ _ _ hrb (by decide) (by decide)) (fun k hk => by rw [hb'.block k hk, hb.block k hk]), hb', hB⟩
  · match i with
    | 0 => exact blk_set hpb 0 _
    | 1 => exact blk_set hpb 1 _
    | 2 => exact blk_set hpb 5 _
    | 3 => exact (Below.heap_setCell w ⟨d, 1, none⟩ _ p hpd).trans hpb
    | 4 => exact (Below.heap_setCell w ⟨d, 2, none⟩ _ p hpd).trans hpb
    | 5 => exact (Below.heap_setCell w ⟨d, 3, none⟩ _ p hpd).trans hpb
  · match i with
    | 0 => exact (Below.heap_setCell w ⟨p, 0, none⟩ _ d hpd.symm).trans hdb
    | 1 => exact (Below.heap_setCell w ⟨p, 1, none⟩ _ d hpd.symm).trans hdb
    | 2 => exact (Below.heap_setCell w ⟨p, 5, none⟩ _ d hpd.symm).trans hdb
    | 3 => exact blk_set hdb 1 _
    | 4 => exact blk_set hdb 2 _
    | 5 => exact blk_set hdb 3 _
  · by_cases hj : j = i
    · subst hj; rw [upd_same]; exact rows hown
    · rw [upd_ne _ _ _ hj]; exact rows (hoth j hj)
  · by_cases ha : a = i
    · subst ha
      rw [upd_same] at hga
      rw [upd_ne _ _ _ (Ne.symm hab)]
      exact fun e => hd1 b (Ne.symm hab) g e hga
    · rw [upd_ne _ _ _ ha] at hga
      by_cases hb2 : b = i
      · subst hb2; rw [upd_same]; exact hd1 a ha g hga
      · rw [upd_ne _ _ _ hb2]; exact hd0 a b ha hb2 hab g hga
/-- An append to a row, and the store of its field. -/
theorem DecS.push (h : DecS w0 w B r p d an tl nc R ts) (i : Fin 6) {g1 c1 n1 : Nat} {xs1 : List Value} {ts' : List Tk} (hown : w'.ownsRow B (rTy i) (rSz i) (.slice (some ⟨g1, 0, none⟩) n1 c1) n1 xs1) (hg : w.grownBy w' (blkOf (R i).ao)) (hat : blkOf (R i).ao = some g1 ∨ w.heap.size ≤ g1)
    (htk : TksAt w B ts' (upd R i ⟨some ⟨g1, 0, none⟩, c1, n1, xs1⟩ 1).xs) :
    DecS w0 (w'.setCell (fAt p d i) (.slice (some ⟨g1, 0, none⟩) n1 c1)) B r p d an tl nc (upd R i ⟨some ⟨g1, 0, none⟩, c1, n1, xs1⟩) ts' := by
  have hty : ∀ x c T q, w.heap[x]? = some (Obj.cells c T q) → rTy i ≠ T → w'.heap[x]? = w.heap[x]? := fun x c T q hx hT => hg.block x (blk_lt hx) (fun e => by
    obtain ⟨c', hc'⟩ := own_type (h.own i) x e.symm
    exact type_ne hc' hx hT rfl)
  obtain ⟨cs, hrb⟩ := h.rblk
  have hb' : Below B w0 w' := below_grown h.bel h.hB hg (fun g e => (owns_lt (h.own i) g e).1)
  refine DecS.field (i := i) (x := ⟨some ⟨g1, 0, none⟩, c1, n1, xs1⟩) ((hty p _ _ _ h.pblk (rTy_pat i).1).trans h.pblk) ((hty d _ _ _ h.dblk (rTy_pat i).2.1).trans h.dblk) hown (fun j hj => owns_kept (h.own j) (fun g o hgg h1 => (hg.block g (owns_lt (h.own j) g hgg).2 (fun e => h.dis j i hj g hgg e.symm)).trans h1))
    (fun j k _ _ hjk => h.dis j k hjk) (fun j hj g hgj e => ?_) h.hp h.hd (htk.kept (fun g cs q _ h1 => (hty g _ _ _ h1 (rTy_pat i).2.2.2).trans h1)) (h.rd.kept (hty r _ _ _ hrb (rTy_pat i).2.2.1) (fun k hk => by rw [hb'.block k hk, h.bel.block k hk])) hb' h.hB
  simp only [blkOf, Option.map_some, Option.some.injEq] at e
  subst e
  rcases hat with hat | hat
  · exact h.dis j i hj _ hgj hat
  · have := (owns_lt (h.own j) _ hgj).2; omega
/-- A row cut short. -/
theorem DecS.cut (h : DecS w0 w B r p d an tl nc R ts) (i : Fin 6) (hi : i ≠ 1) {g : Nat} (hg : (R i).ao = some ⟨g, 0, none⟩) {k : Nat} (hk : k ≤ (R i).n) (hs : rSz i = 1) :
    DecS w0 (w.setCell (fAt p d i) (.slice (R i).ao k (R i).cap)) B r p d an tl nc (upd R i ⟨(R i).ao, (R i).cap, k, (R i).xs.take k⟩) ts := by
  refine DecS.field (i := i) (x := ⟨(R i).ao, (R i).cap, k, (R i).xs.take k⟩) h.pblk h.dblk ?_ (fun j _ => h.own j) (fun j k _ _ hjk => h.dis j k hjk) (fun j hj => h.dis j i hj) h.hp h.hd (by rw [upd_ne _ _ _ (Ne.symm hi)]; exact h.toks) h.rd h.bel h.hB
  have h1 := h.own i
  simp only [hs, hg] at h1 ⊢
  exact owns_take h1 hk
end


def ints (l : List Nat) : List Value := l.map fun (n : Nat) => .int .i64 (n : Int)
theorem ints_app (a b : List Nat) : ints (a ++ b) = ints a ++ ints b := by simp [ints]
theorem ints_get (l : List Nat) (k : Nat) : (ints l)[k]? = l[k]?.map fun (n : Nat) => Value.int .i64 (n : Int) := by simp [ints]
def bools (l : List Bool) : List Value := l.map .bool
theorem bools_app (a b : List Bool) : bools (a ++ b) = bools a ++ bools b := by simp [bools]
/-- What the rows hold. -/
structure Cont (R : Fin 6 → Rw) (txt : List Int) (ps : List Bool) (op ct cl : List Nat) : Prop where
  tx : (R 0).xs = u8s txt
  tn : (R 0).n = txt.length
  px : (R 2).xs = bools ps
  pn : (R 2).n = ps.length
  ox : (R 3).xs = ints op
  on : (R 3).n = op.length
  cx : (R 4).xs = ints ct
  cn : (R 4).n = ct.length
  lx : (R 5).xs = ints cl
  ln : (R 5).n = cl.length
/-- The last number, one more. -/
def bumpL (l : List Nat) : List Nat := match l.reverse with
  | [] => []
  | x :: r => ((x + 1) :: r).reverse
theorem bumpL_nil : bumpL [] = [] := rfl
theorem bumpL_app (c : List Nat) (x : Nat) : bumpL (c ++ [x]) = c ++ [x + 1] := by simp [bumpL]
theorem bumpL_len (l : List Nat) : (bumpL l).length = l.length := by
  rcases List.eq_nil_or_concat l with h | ⟨c, x, h⟩
  · rw [h]; rfl
  · rw [List.concat_eq_append] at h; rw [h, bumpL_app]; simp
theorem row_some {w : World} {B : Nat} {T : TypeId} {sz n cap : Nat} {ao : Option Addr} {xs : List Value} (h : w.ownsRow B T sz (.slice ao n cap) n xs) (h0 : 0 < n) : ∃ g, ao = some ⟨g, 0, none⟩ := by
  rcases h.2 with ⟨_, h2⟩ | ⟨g, c', cur, h1, _⟩
  · omega
  · simp only [Value.slice.injEq] at h1; exact ⟨g, h1.1⟩
/-- What the decoder's helpers leave. -/
def DPost (w0 : World) (B r p d : Nat) (an tl : Bool) (nc : Nat) (ts : List Tk) (txt : List Int) (ps : List Bool) (op ct cl : List Nat) (w' : World) : Prop :=
  ∃ R, DecS w0 w' B r p d an tl nc R ts ∧ Cont R txt ps op ct cl
set_option maxRecDepth 100000 in
set_option maxHeartbeats 1000000 in
theorem bump_any {w0 w : World} {B r p d nc : Nat} {an tl : Bool} {R : Fin 6 → Rw} {ts : List Tk} {txt : List Int} {ps : List Bool} {op ct cl : List Nat} (h : DecS w0 w B r p d an tl nc R ts) (hc : Cont R txt ps op ct cl) (hl : ∀ x, x ∈ ct → x ≤ 1048576) (hn : ct.length ≤ 16) :
    Calls Tryf.prog 13 #[.pointer (some ⟨d, 0, none⟩)] w fun e w' => e = .returned (.tuple #[]) ∧ DPost w0 B r p d an tl nc ts txt ps op (bumpL ct) cl w' ∧ ∀ k, blkOf (R 4).ao ≠ some k → w'.heap[k]? = w.heap[k]? := by
  have hcx := hc.cx
  have hcn := hc.cn
  have h4 : w.ownsRow B 3 1 (.slice (R 4).ao (R 4).n (R 4).cap) (R 4).n (R 4).xs := h.own 4
  have kd : w.cell? ⟨d, 2, none⟩ = some (.slice (R 4).ao (R 4).n (R 4).cap) := blk_cell h.dblk 2 _ rfl
  have H := Lib.hid h
  have HC := Lib.hid hc
  clear h hc
  rcases List.eq_nil_or_concat ct with rfl | ⟨c, x, rfl⟩
  · have e0 : (R 4).n = 0 := hcn
    rw [e0] at kd
    clear h4 hcx hcn
    go_enter Tryf.func13, Tryf.ntmps13
    go_wp2_with fail
    go_end0
    exact ⟨rfl, ⟨R, H.out, HC.out⟩, fun _ _ => rfl⟩
  · rw [List.concat_eq_append] at *
    have e0 : (R 4).n = c.length + 1 := by rw [hcn]; simp
    obtain ⟨g, hg⟩ := row_some h4 (by omega)
    have hx : x ≤ 1048576 := hl x (by simp)
    have hcl : c.length ≤ 16 := by simp at hn; omega
    have kc : w.cell? ⟨g, c.length, none⟩ = some (.int .i64 (x : Int)) := by
      rw [hg] at h4
      refine (h4.cellAt c.length (by omega)).trans ?_
      rw [hcx, ints_get]
      simp
    have fc : w.frozen? ⟨g, c.length, none⟩ = false := by
      rw [hg] at h4
      exact h4.frozenAt c.length
    rw [e0, hg] at kd
    have hci : (c.length : Int) + 1 - 1 = (c.length : Int) := by omega
    have hb1 : (c.length : Int) < (c.length : Int) + 1 := by omega
    have hb2 : (c.length : Int) < ((c.length + 1 : Nat) : Int) := by omega
    have hb3 : c.length < c.length + 1 := by omega
    have HG := Lib.hid hg
    have HCX := Lib.hid hcx
    generalize (R 4).cap = cap4 at kd
    obtain ⟨k, hk⟩ : ∃ k, c.length = k := ⟨_, rfl⟩
    rw [hk] at kd kc fc hb1 hb2 hb3 hci hcl
    have HKL := Lib.hid hk
    have he0 := Lib.hid e0
    clear hk hn e0
    have hwk : IntKind.i64.wrap (k : Int) = (k : Int) := by rw [IntWalk.i64_in _ (by omega)]
    have hwx : IntKind.i64.wrap ((x : Int) + 1) = (x : Int) + 1 := by rw [IntWalk.i64_in _ (by omega)]
    clear h4 hl hcx hcn hg
    go_enter Tryf.func13, Tryf.ntmps13
    go_wp2_with fail
    go_still_tail 14, (by kernel_rfl)
    change wpList _ _ _ _ _ w.drew
    go_wp2_with fail
    go_end0
    have HP := H.out.drew.poke (i := 4) (by decide) HG.out k (.int .i64 ((x : Int) + 1))
    have C := HC.out
    refine ⟨rfl, ⟨_, HP, ⟨C.tx, C.tn, C.px, C.pn, C.ox, C.on, ?_, ?_, C.lx, C.ln⟩⟩, fun j hj => Below.heap_setCell w.drew ⟨g, k, none⟩ _ j (fun e => hj (by rw [HG.out, e]; rfl))⟩
    · show ((R 4).xs.set k (.int .i64 ((x : Int) + 1))) = _
      rw [← HKL.out, HCX.out, bumpL_app, ints_app, ints_app]
      rw [List.set_append_right _ _ (by simp [ints])]
      simp [ints]
    · show (R 4).n = _
      rw [he0.out, bumpL_app]
      simp


def quants : List Int := [0, 42, 43, 45, 63]
/-- A whole row of tokens: the captures in it bear the numbers from k to k' - 1. -/
inductive TS : Nat → Nat → List Tk → Prop
  | nil {k} : TS k k []
  | cls {k k' c q ts} : c.ok → q ∈ quants → TS k k' ts → TS k k' (.cls c q :: ts)
  | pos {k k' ts} : TS (k + 1) k' ts → TS k k' (.pos k :: ts)
  | cap {k k1 k' inner ts} : TS (k + 1) k1 inner → inner ≠ [] → TS k1 k' ts → TS k k' (.opn k :: (inner ++ .clo k :: ts))
  | ref {k k' n ts} : 1 ≤ n → n ≤ 9 → TS k k' ts → TS k k' (.ref n :: ts)
  | brc {k k' x y ts} : (x, y) ∈ brcs4 → TS k k' ts → TS k k' (.brc x y :: ts)
theorem TS.append {k k1 k' : Nat} {a b : List Tk} (h : TS k k1 a) (h2 : TS k1 k' b) : TS k k' (a ++ b) := by
  induction h with
  | nil => exact h2
  | cls hc hq _ ih => exact .cls hc hq (ih h2)
  | pos _ ih => exact .pos (ih h2)
  | cap hi hn _ ih1 ih2 =>
    have := TS.cap hi hn (ih2 h2)
    simpa using this
  | ref h1 h9 _ ih => exact .ref h1 h9 (ih h2)
  | brc hx _ ih => exact .brc hx (ih h2)
theorem TS.le {k k' : Nat} {a : List Tk} (h : TS k k' a) : k ≤ k' := by
  induction h with
  | nil => omega
  | cap _ _ _ ih1 ih2 => omega
  | _ => omega
/-- A row of tokens with captures open. -/
inductive OpenS : Nat → List Tk → List Nat → Prop
  | base {k ts} : TS 1 k ts → OpenS k ts []
  | opn {k k' ts op inner} : OpenS k ts op → TS (k + 1) k' inner → OpenS k' (ts ++ .opn k :: inner) (op ++ [k])
/-- .. and with the counts of what stands in each. -/
inductive DS : Nat → List Tk → List Nat → List Nat → Prop
  | base {k ts} : TS 1 k ts → DS k ts [] []
  | opn {k k' ts op inner ct c} : OpenS k ts op → ct.length = op.length → TS (k + 1) k' inner → (c = 0 ∨ inner ≠ []) → DS k' (ts ++ .opn k :: inner) (op ++ [k]) (ct ++ [c])
theorem DS.open {k : Nat} {ts : List Tk} {op ct : List Nat} (h : DS k ts op ct) : OpenS k ts op ∧ ct.length = op.length := by
  cases h with
  | base h => exact ⟨.base h, rfl⟩
  | opn h1 h2 h3 h4 => exact ⟨.opn h1 h3, by simp [h2]⟩
/-- Tokens added. -/
theorem DS.add {k k' : Nat} {ts item : List Tk} {op ct : List Nat} (h : DS k ts op ct) (hi : TS k k' item) (hn : item ≠ []) : DS k' (ts ++ item) op (bumpL ct) := by
  cases h with
  | base h => exact .base (h.append hi)
  | opn h1 h2 h3 h4 =>
    rw [bumpL_app, List.append_assoc, List.cons_append]
    exact .opn h1 h2 (h3.append hi) (.inr (by simp [hn]))
/-- A capture opened. -/
theorem DS.push {k : Nat} {ts : List Tk} {op ct : List Nat} (h : DS k ts op ct) : DS (k + 1) (ts ++ [.opn k]) (op ++ [k]) (bumpL ct ++ [0]) :=
  .opn h.open.1 (by rw [bumpL_len]; exact h.open.2) .nil (.inl rfl)
/-- A capture closed. -/
theorem DS.close {k n c : Nat} {ts : List Tk} {op ct : List Nat} (h : DS k ts (op ++ [n]) (ct ++ [c])) : DS k (ts ++ (if c = 0 then [.cls (.lit 97) 0] else []) ++ [.clo n]) op ct := by
  generalize ho : op ++ [n] = op1 at h
  generalize hc : ct ++ [c] = ct1 at h
  cases h with
  | base h => simp at ho
  | @opn k0 _ ts0 op0 inner ct0 c0 h1 h2 h3 h4 =>
    obtain ⟨rfl, e1⟩ := List.append_inj' ho rfl
    obtain ⟨rfl, e2⟩ := List.append_inj' hc rfl
    simp only [List.cons.injEq, and_true] at e1 e2
    subst e1 e2
    obtain ⟨inner', hi, hne, e⟩ : ∃ inner', TS (n + 1) k inner' ∧ inner' ≠ [] ∧ inner ++ (if c = 0 then [Tk.cls (.lit 97) 0] else []) = inner' := by
      refine ⟨_, ?_, ?_, rfl⟩
      · split
        · exact h3.append (.cls (by simp [CK.ok, lits13]) (by simp [quants]) .nil)
        · simpa using h3
      · rcases h4 with h4 | h4
        · rw [if_pos h4]; simp
        · simp [h4]
    have e' : ts0 ++ Tk.opn n :: inner ++ (if c = 0 then [Tk.cls (.lit 97) 0] else []) ++ [Tk.clo n] = ts0 ++ (Tk.opn n :: (inner' ++ Tk.clo n :: [])) := by
      rw [← e]; simp
    rw [e']
    have hcap : TS n k (Tk.opn n :: (inner' ++ Tk.clo n :: [])) := .cap hi hne .nil
    cases h1 with
    | base h =>
      have : ct = [] := List.length_eq_zero_iff.1 h2
      subst this
      exact .base (h.append hcap)
    | @opn k1 _ ts1 op1 inner1 g1 g2 =>
      rcases List.eq_nil_or_concat ct with rfl | ⟨ct2, x, rfl⟩
      · simp at h2
      · rw [List.concat_eq_append] at *
        rw [List.append_assoc, List.cons_append]
        exact .opn g1 (by simpa using h2) (g2.append hcap) (.inr (by simp))
/-- Which captures are positions, in order. -/
def psOf (ts : List Tk) : List Bool := ts.filterMap fun t => match t with
  | .opn _ => some false
  | .pos _ => some true
  | _ => none
theorem psOf_app (a b : List Tk) : psOf (a ++ b) = psOf a ++ psOf b := by simp [psOf]
/-- How many classes are repeated without bound. -/
def unb (ts : List Tk) : Nat := ts.countP fun t => match t with
  | .cls _ q => q == 42 || q == 43 || q == 45
  | _ => false
theorem unb_app (a b : List Tk) : unb (a ++ b) = unb a + unb b := by simp [unb]
/-- Each reference is to a capture that is closed before it. -/
def RefsOk (ts : List Tk) : Prop := ∀ (pre : List Tk) (n : Nat) (post : List Tk), ts = pre ++ .ref n :: post → .clo n ∈ pre
theorem RefsOk.nil : RefsOk [] := fun pre n post h => by simp at h
theorem RefsOk.snoc {ts : List Tk} {t : Tk} (h : RefsOk ts) (ht : ∀ n, t = .ref n → .clo n ∈ ts) : RefsOk (ts ++ [t]) := by
  intro pre n post e
  rcases List.eq_nil_or_concat post with rfl | ⟨post', x, rfl⟩
  · obtain ⟨rfl, e2⟩ := List.append_inj' e rfl
    simp only [List.cons.injEq, and_true] at e2
    exact ht n e2
  · rw [List.concat_eq_append, ← List.cons_append, ← List.append_assoc] at e
    obtain ⟨rfl, -⟩ := List.append_inj' e rfl
    exact h pre n post' rfl
theorem RefsOk.snoc' {ts : List Tk} {t : Tk} (h : RefsOk ts) (ht : ∀ n, t ≠ .ref n) : RefsOk (ts ++ [t]) := h.snoc (fun n e => absurd e (ht n))
/-- What the decoder's loop keeps, over what it has made. -/
structure DWf (an : Bool) (nc : Nat) (ts : List Tk) (txt : List Int) (ps : List Bool) (op ct cl : List Nat) (ub it : Nat) : Prop where
  ds : DS (nc + 1) ts op ct
  tx : txt = (if an then [94] else []) ++ txts ts
  psE : ps = false :: psOf ts
  nc12 : nc ≤ 12
  op3 : op.length ≤ 3
  cnt : ∀ x, x ∈ ct → x ≤ it
  clo : ∀ n, n ∈ cl → .clo n ∈ ts ∧ 1 ≤ n
  cll : cl.length + op.length ≤ nc
  refs : RefsOk ts
  ubE : ub = unb ts
  ub2 : ub ≤ 2
  opn : ∀ n, n ∈ op → 1 ≤ n ∧ n ≤ 12
  lts : ts.length + 2 * op.length ≤ 3 * it
  ltx : txt.length + 2 * op.length ≤ 1 + 16 * it
theorem bumpL_le {l : List Nat} {b : Nat} (h : ∀ x, x ∈ l → x ≤ b) : ∀ x, x ∈ bumpL l → x ≤ b + 1 := by
  rcases List.eq_nil_or_concat l with rfl | ⟨c, y, rfl⟩
  · intro x hx; cases hx
  · rw [List.concat_eq_append] at h ⊢
    rw [bumpL_app]
    intro x hx
    simp only [List.mem_append, List.mem_singleton] at hx h
    rcases hx with hx | rfl
    · have := h x (.inl hx); omega
    · have := h y (.inr rfl); omega
section
variable {an : Bool} {nc ub it : Nat} {ts : List Tk} {txt : List Int} {ps : List Bool} {op ct cl : List Nat}
theorem DWf.nil (an : Bool) : DWf an 0 [] (if an then [94] else []) [false] [] [] [] 0 0 :=
  ⟨.base .nil, by simp [txts], rfl, by omega, by simp, fun x hx => (by cases hx), fun n hn => (by cases hn), by simp, .nil, rfl, by omega, fun n hn => (by cases hn), by simp, by cases an <;> simp⟩
theorem DWf.ctl (h : DWf an nc ts txt ps op ct cl ub it) : ct.length = op.length := h.ds.open.2
theorem DWf.mono (h : DWf an nc ts txt ps op ct cl ub it) {it' : Nat} (hi : it ≤ it') : DWf an nc ts txt ps op ct cl ub it' :=
  { h with cnt := fun x hx => Nat.le_trans (h.cnt x hx) hi, lts := by have := h.lts; omega, ltx := by have := h.ltx; omega }
/-- A class, a reference, a balanced match. -/
theorem DWf.add (h : DWf an nc ts txt ps op ct cl ub it) {t : Tk} {ub' : Nat} {tt : List Int} (hts : TS (nc + 1) (nc + 1) [t]) (hps : psOf [t] = []) (hr : ∀ n, t = .ref n → n ∈ cl) (htt : tt = t.txt) (hl : t.txt.length ≤ 16) (hub : ub' = ub + unb [t]) (hu2 : ub' ≤ 2) :
    DWf an nc (ts ++ [t]) (txt ++ tt) ps op (bumpL ct) cl ub' (it + 1) where
  ds := h.ds.add hts (by simp)
  tx := by rw [h.tx, txts_app, txts_one, htt, List.append_assoc]
  psE := by rw [h.psE, psOf_app, hps, List.append_nil]
  nc12 := h.nc12
  op3 := h.op3
  cnt := bumpL_le h.cnt
  clo := fun n hn => ⟨by simp [(h.clo n hn).1], (h.clo n hn).2⟩
  cll := h.cll
  refs := h.refs.snoc (fun n e => (h.clo n (hr n e)).1)
  ubE := by rw [hub, unb_app, h.ubE]
  ub2 := hu2
  opn := h.opn
  lts := by have := h.lts; rw [List.length_append, List.length_singleton]; omega
  ltx := by have := h.ltx; rw [List.length_append, htt]; omega
theorem DWf.pos (h : DWf an nc ts txt ps op ct cl ub it) (hn : nc < 12) : DWf an (nc + 1) (ts ++ [.pos (nc + 1)]) (txt ++ [40, 41]) (ps ++ [true]) op (bumpL ct) cl ub (it + 1) where
  ds := h.ds.add (.pos .nil) (by simp)
  tx := by rw [h.tx, txts_app, txts_one, List.append_assoc]; rfl
  psE := by rw [h.psE, psOf_app]; rfl
  nc12 := by omega
  op3 := h.op3
  cnt := bumpL_le h.cnt
  clo := fun n hn => ⟨by simp [(h.clo n hn).1], (h.clo n hn).2⟩
  cll := by have := h.cll; omega
  refs := h.refs.snoc' (fun n e => by cases e)
  ubE := by rw [unb_app, h.ubE]; rfl
  ub2 := h.ub2
  opn := h.opn
  lts := by have := h.lts; rw [List.length_append, List.length_singleton]; omega
  ltx := by have := h.ltx; rw [List.length_append]; simp; omega
theorem DWf.opened (h : DWf an nc ts txt ps op ct cl ub it) (hn : nc < 12) (ho : op.length < 3) : DWf an (nc + 1) (ts ++ [.opn (nc + 1)]) (txt ++ [40]) (ps ++ [false]) (op ++ [nc + 1]) (bumpL ct ++ [0]) cl ub (it + 1) where
  ds := h.ds.push
  tx := by rw [h.tx, txts_app, txts_one, List.append_assoc]; rfl
  psE := by rw [h.psE, psOf_app]; rfl
  nc12 := by omega
  op3 := by simp; omega
  cnt := fun x hx => by
    simp only [List.mem_append, List.mem_singleton] at hx
    rcases hx with hx | rfl
    · exact bumpL_le h.cnt x hx
    · omega
  clo := fun n hn => ⟨by simp [(h.clo n hn).1], (h.clo n hn).2⟩
  cll := by have := h.cll; simp; omega
  refs := h.refs.snoc' (fun n e => by cases e)
  ubE := by rw [unb_app, h.ubE]; rfl
  ub2 := h.ub2
  opn := fun n hn2 => by
    simp only [List.mem_append, List.mem_singleton] at hn2
    rcases hn2 with hn2 | rfl
    · exact h.opn n hn2
    · omega
  lts := by have := h.lts; simp; omega
  ltx := by have := h.ltx; simp; omega
theorem DWf.closed {n c : Nat} (h : DWf an nc ts txt ps (op ++ [n]) (ct ++ [c]) cl ub it) : DWf an nc (ts ++ (if c = 0 then [.cls (.lit 97) 0] else []) ++ [.clo n]) (txt ++ (if c = 0 then [97] else []) ++ [41]) ps op ct (cl ++ [n]) ub it where
  ds := h.ds.close
  tx := by rw [h.tx]; by_cases hc : c = 0 <;> simp [hc, txts, Tk.txt, CK.txt, qtxt]
  psE := by rw [h.psE]; by_cases hc : c = 0 <;> simp [hc, psOf]
  nc12 := h.nc12
  op3 := by have := h.op3; simp at this; omega
  cnt := fun x hx => h.cnt x (by simp [hx])
  clo := fun m hm => by
    simp only [List.mem_append, List.mem_singleton] at hm
    rcases hm with hm | rfl
    · have := (h.clo m hm).1; exact ⟨by by_cases hc : c = 0 <;> simp [hc, this], (h.clo m hm).2⟩
    · exact ⟨by simp, (h.opn m (by simp)).1⟩
  cll := by have := h.cll; simp at this ⊢; omega
  refs := by
    by_cases hc : c = 0
    · rw [if_pos hc]; exact (h.refs.snoc' (fun n e => by cases e)).snoc' (fun n e => by cases e)
    · rw [if_neg hc, List.append_nil]; exact h.refs.snoc' (fun n e => by cases e)
  ubE := by rw [h.ubE]; by_cases hc : c = 0 <;> simp [hc, unb]
  ub2 := h.ub2
  opn := fun m hm => h.opn m (by simp [hm])
  lts := by have := h.lts; by_cases hc : c = 0 <;> simp [hc] at this ⊢ <;> omega
  ltx := by have := h.ltx; by_cases hc : c = 0 <;> simp [hc] at this ⊢ <;> omega
end


theorem tok_info : (Tryf.prog.info? 59).map (fun i => (i.zero, i.size, i.bytes)) = some (some (.agg #[.int .i64 0, .int .i64 0, .int .i64 0, .bool false, .slice none 0 0, .int .u8 0, .int .i64 0, .int .i64 0]), 8, 80) := by kernel_rfl
theorem bool_info : (Tryf.prog.info? 4).map (fun i => (i.zero, i.size, i.bytes)) = some (some (.bool false), 1, 1) := by kernel_rfl
theorem int_info : (Tryf.prog.info? 3).map (fun i => (i.zero, i.size, i.bytes)) = some (some (.int .i64 0), 1, 8) := by kernel_rfl
theorem news_dr {w : World} {cs : Array Value} {T : TypeId} : ∀ (j : Nat) (u : Value), cs.toList[j]? = some u → ((w.alloc (.cells cs T)).drew).cell? ((⟨w.heap.size, 0, none⟩ : Addr).add j) = some u := by
  intro j u hj
  rw [addr_add, Nat.zero_add]
  exact blk_cell (blk_drew (blk_new _ _)) j _ (by simpa using hj)
section
variable {w0 w w' : World} {B r p d nc : Nat} {an tl : Bool} {R : Fin 6 → Rw} {ts : List Tk}
theorem DecS.own0 (h : DecS w0 w B r p d an tl nc R ts) : w.ownsRow B 5 1 (.slice (R 0).ao (R 0).n (R 0).cap) (R 0).n (R 0).xs := h.own 0
theorem DecS.own1 (h : DecS w0 w B r p d an tl nc R ts) : w.ownsRow B 59 8 (.slice (R 1).ao (R 1).n (R 1).cap) (R 1).n (R 1).xs := h.own 1
theorem DecS.own2 (h : DecS w0 w B r p d an tl nc R ts) : w.ownsRow B 4 1 (.slice (R 2).ao (R 2).n (R 2).cap) (R 2).n (R 2).xs := h.own 2
theorem DecS.own3 (h : DecS w0 w B r p d an tl nc R ts) : w.ownsRow B 3 1 (.slice (R 3).ao (R 3).n (R 3).cap) (R 3).n (R 3).xs := h.own 3
theorem DecS.own4 (h : DecS w0 w B r p d an tl nc R ts) : w.ownsRow B 3 1 (.slice (R 4).ao (R 4).n (R 4).cap) (R 4).n (R 4).xs := h.own 4
theorem DecS.own5 (h : DecS w0 w B r p d an tl nc R ts) : w.ownsRow B 3 1 (.slice (R 5).ao (R 5).n (R 5).cap) (R 5).n (R 5).xs := h.own 5
theorem DecS.pGrown (h : DecS w0 w B r p d an tl nc R ts) {i : Fin 6} (hg : w.grownBy w' (blkOf (R i).ao)) : w'.heap[p]? = some (.cells #[.slice (R 0).ao (R 0).n (R 0).cap, .slice (R 1).ao (R 1).n (R 1).cap, .bool an, .bool tl, .int .i64 (nc : Int), .slice (R 2).ao (R 2).n (R 2).cap] 35 (0, 0)) :=
  blk_grown h.pblk hg (fun e => by
    obtain ⟨c, hc⟩ := own_type (h.own i) p e.symm
    exact type_ne hc h.pblk (rTy_pat i).1 rfl)
theorem DecS.dGrown (h : DecS w0 w B r p d an tl nc R ts) {i : Fin 6} (hg : w.grownBy w' (blkOf (R i).ao)) : w'.heap[d]? = some (.cells #[.pointer (some ⟨p, 0, none⟩), .slice (R 3).ao (R 3).n (R 3).cap, .slice (R 4).ao (R 4).n (R 4).cap, .slice (R 5).ao (R 5).n (R 5).cap] 53 (0, 0)) :=
  blk_grown h.dblk hg (fun e => by
    obtain ⟨c, hc⟩ := own_type (h.own i) d e.symm
    exact type_ne hc h.dblk (rTy_pat i).2.1 rfl)
theorem cap_le {T : TypeId} {sz n cap : Nat} {ao : Option Addr} {xs : List Value} (h : w.ownsRow B T sz (.slice ao n cap) n xs) : n ≤ cap := by
  rcases h.2 with ⟨_, h2⟩ | ⟨g, c, cur, h1, hb, hg, hn, _⟩
  · omega
  · simp only [Value.slice.injEq] at h1; omega
theorem DecS.tn (h : DecS w0 w B r p d an tl nc R ts) : (R 1).n = ts.length := by
  have h1 := h.own1.1
  have h2 := h.toks.length
  omega
theorem DecS.push0 (h : DecS w0 w B r p d an tl nc R ts) {g1 c1 n1 : Nat} {xs1 : List Value} (hown : w'.ownsRow B 5 1 (.slice (some ⟨g1, 0, none⟩) n1 c1) n1 xs1) (hg : w.grownBy w' (blkOf (R 0).ao)) (hat : blkOf (R 0).ao = some g1 ∨ w.heap.size ≤ g1) :
    DecS w0 (w'.setCell ⟨p, 0, none⟩ (.slice (some ⟨g1, 0, none⟩) n1 c1)) B r p d an tl nc (upd R 0 ⟨some ⟨g1, 0, none⟩, c1, n1, xs1⟩) ts := h.push 0 hown hg hat h.toks
theorem DecS.push1 (h : DecS w0 w B r p d an tl nc R ts) {g1 c1 n1 : Nat} {xs1 : List Value} {ts' : List Tk} (hown : w'.ownsRow B 59 8 (.slice (some ⟨g1, 0, none⟩) n1 c1) n1 xs1) (hg : w.grownBy w' (blkOf (R 1).ao)) (hat : blkOf (R 1).ao = some g1 ∨ w.heap.size ≤ g1) (htk : TksAt w B ts' xs1) :
    DecS w0 (w'.setCell ⟨p, 1, none⟩ (.slice (some ⟨g1, 0, none⟩) n1 c1)) B r p d an tl nc (upd R 1 ⟨some ⟨g1, 0, none⟩, c1, n1, xs1⟩) ts' := h.push 1 hown hg hat (by rw [upd_same]; exact htk)
theorem DecS.push2 (h : DecS w0 w B r p d an tl nc R ts) {g1 c1 n1 : Nat} {xs1 : List Value} (hown : w'.ownsRow B 4 1 (.slice (some ⟨g1, 0, none⟩) n1 c1) n1 xs1) (hg : w.grownBy w' (blkOf (R 2).ao)) (hat : blkOf (R 2).ao = some g1 ∨ w.heap.size ≤ g1) :
    DecS w0 (w'.setCell ⟨p, 5, none⟩ (.slice (some ⟨g1, 0, none⟩) n1 c1)) B r p d an tl nc (upd R 2 ⟨some ⟨g1, 0, none⟩, c1, n1, xs1⟩) ts := h.push 2 hown hg hat h.toks
theorem DecS.push3 (h : DecS w0 w B r p d an tl nc R ts) {g1 c1 n1 : Nat} {xs1 : List Value} (hown : w'.ownsRow B 3 1 (.slice (some ⟨g1, 0, none⟩) n1 c1) n1 xs1) (hg : w.grownBy w' (blkOf (R 3).ao)) (hat : blkOf (R 3).ao = some g1 ∨ w.heap.size ≤ g1) :
    DecS w0 (w'.setCell ⟨d, 1, none⟩ (.slice (some ⟨g1, 0, none⟩) n1 c1)) B r p d an tl nc (upd R 3 ⟨some ⟨g1, 0, none⟩, c1, n1, xs1⟩) ts := h.push 3 hown hg hat h.toks
theorem DecS.push4 (h : DecS w0 w B r p d an tl nc R ts) {g1 c1 n1 : Nat} {xs1 : List Value} (hown : w'.ownsRow B 3 1 (.slice (some ⟨g1, 0, none⟩) n1 c1) n1 xs1) (hg : w.grownBy w' (blkOf (R 4).ao)) (hat : blkOf (R 4).ao = some g1 ∨ w.heap.size ≤ g1) :
    DecS w0 (w'.setCell ⟨d, 2, none⟩ (.slice (some ⟨g1, 0, none⟩) n1 c1)) B r p d an tl nc (upd R 4 ⟨some ⟨g1, 0, none⟩, c1, n1, xs1⟩) ts := h.push 4 hown hg hat h.toks
theorem DecS.push5 (h : DecS w0 w B r p d an tl nc R ts) {g1 c1 n1 : Nat} {xs1 : List Value} (hown : w'.ownsRow B 3 1 (.slice (some ⟨g1, 0, none⟩) n1 c1) n1 xs1) (hg : w.grownBy w' (blkOf (R 5).ao)) (hat : blkOf (R 5).ao = some g1 ∨ w.heap.size ≤ g1) :
    DecS w0 (w'.setCell ⟨d, 3, none⟩ (.slice (some ⟨g1, 0, none⟩) n1 c1)) B r p d an tl nc (upd R 5 ⟨some ⟨g1, 0, none⟩, c1, n1, xs1⟩) ts := h.push 5 hown hg hat h.toks
theorem DecS.cut3 (h : DecS w0 w B r p d an tl nc R ts) {g : Nat} (hg : (R 3).ao = some ⟨g, 0, none⟩) {k : Nat} (hk : k ≤ (R 3).n) :
    DecS w0 (w.setCell ⟨d, 1, none⟩ (.slice (R 3).ao k (R 3).cap)) B r p d an tl nc (upd R 3 ⟨(R 3).ao, (R 3).cap, k, (R 3).xs.take k⟩) ts := h.cut 3 (by decide) hg hk rfl
theorem DecS.cut4 (h : DecS w0 w B r p d an tl nc R ts) {g : Nat} (hg : (R 4).ao = some ⟨g, 0, none⟩) {k : Nat} (hk : k ≤ (R 4).n) :
    DecS w0 (w.setCell ⟨d, 2, none⟩ (.slice (R 4).ao k (R 4).cap)) B r p d an tl nc (upd R 4 ⟨(R 4).ao, (R 4).cap, k, (R 4).xs.take k⟩) ts := h.cut 4 (by decide) hg hk rfl
end
section
variable {R : Fin 6 → Rw} {txt : List Int} {ps : List Bool} {op ct cl : List Nat}
theorem Cont.push0 (h : Cont R txt ps op ct cl) (a : Option Addr) (c k : Nat) (l : List Int) (hk : l.length = k) : Cont (upd R 0 ⟨a, c, (R 0).n + k, (R 0).xs ++ u8s l⟩) (txt ++ l) ps op ct cl :=
  ⟨by rw [upd_same]; show (R 0).xs ++ u8s l = _; rw [h.tx, u8s_app], by rw [upd_same]; show (R 0).n + k = _; rw [h.tn, List.length_append, hk], h.px, h.pn, h.ox, h.on, h.cx, h.cn, h.lx, h.ln⟩
theorem Cont.push1 (h : Cont R txt ps op ct cl) (x : Rw) : Cont (upd R 1 x) txt ps op ct cl := ⟨h.tx, h.tn, h.px, h.pn, h.ox, h.on, h.cx, h.cn, h.lx, h.ln⟩
theorem Cont.push2 (h : Cont R txt ps op ct cl) (a : Option Addr) (c : Nat) (b : Bool) : Cont (upd R 2 ⟨a, c, (R 2).n + 1, (R 2).xs ++ [.bool b]⟩) txt (ps ++ [b]) op ct cl :=
  ⟨h.tx, h.tn, by rw [upd_same]; show (R 2).xs ++ [.bool b] = _; rw [h.px, bools_app]; rfl, by rw [upd_same]; show (R 2).n + 1 = _; rw [h.pn, List.length_append]; rfl, h.ox, h.on, h.cx, h.cn, h.lx, h.ln⟩
theorem Cont.push3 (h : Cont R txt ps op ct cl) (a : Option Addr) (c x : Nat) : Cont (upd R 3 ⟨a, c, (R 3).n + 1, (R 3).xs ++ [.int .i64 (x : Int)]⟩) txt ps (op ++ [x]) ct cl :=
  ⟨h.tx, h.tn, h.px, h.pn, by rw [upd_same]; show (R 3).xs ++ [.int .i64 (x : Int)] = _; rw [h.ox, ints_app]; rfl, by rw [upd_same]; show (R 3).n + 1 = _; rw [h.on, List.length_append]; rfl, h.cx, h.cn, h.lx, h.ln⟩
theorem Cont.push4 (h : Cont R txt ps op ct cl) (a : Option Addr) (c x : Nat) : Cont (upd R 4 ⟨a, c, (R 4).n + 1, (R 4).xs ++ [.int .i64 (x : Int)]⟩) txt ps op (ct ++ [x]) cl :=
  ⟨h.tx, h.tn, h.px, h.pn, h.ox, h.on, by rw [upd_same]; show (R 4).xs ++ [.int .i64 (x : Int)] = _; rw [h.cx, ints_app]; rfl, by rw [upd_same]; show (R 4).n + 1 = _; rw [h.cn, List.length_append]; rfl, h.lx, h.ln⟩
theorem Cont.push5 (h : Cont R txt ps op ct cl) (a : Option Addr) (c x : Nat) : Cont (upd R 5 ⟨a, c, (R 5).n + 1, (R 5).xs ++ [.int .i64 (x : Int)]⟩) txt ps op ct (cl ++ [x]) :=
  ⟨h.tx, h.tn, h.px, h.pn, h.ox, h.on, h.cx, h.cn, by rw [upd_same]; show (R 5).xs ++ [.int .i64 (x : Int)] = _; rw [h.lx, ints_app]; rfl, by rw [upd_same]; show (R 5).n + 1 = _; rw [h.ln, List.length_append]; rfl⟩
theorem Cont.cut3 {x : Nat} (h : Cont R txt ps (op ++ [x]) ct cl) {k : Nat} (hk : op.length = k) : Cont (upd R 3 ⟨(R 3).ao, (R 3).cap, k, (R 3).xs.take k⟩) txt ps op ct cl :=
  ⟨h.tx, h.tn, h.px, h.pn, by rw [upd_same]; show (R 3).xs.take k = _; rw [h.ox, ints_app, List.take_append_of_le_length (by simp [ints, hk]), List.take_of_length_le (by simp [ints, hk])], by rw [upd_same]; exact hk.symm, h.cx, h.cn, h.lx, h.ln⟩
theorem Cont.cut4 {x : Nat} (h : Cont R txt ps op (ct ++ [x]) cl) {k : Nat} (hk : ct.length = k) : Cont (upd R 4 ⟨(R 4).ao, (R 4).cap, k, (R 4).xs.take k⟩) txt ps op ct cl :=
  ⟨h.tx, h.tn, h.px, h.pn, h.ox, h.on, by rw [upd_same]; show (R 4).xs.take k = _; rw [h.cx, ints_app, List.take_append_of_le_length (by simp [ints, hk]), List.take_of_length_le (by simp [ints, hk])], by rw [upd_same]; exact hk.symm, h.lx, h.ln⟩
end
/-- A state beside the one before: the rows of what is open stand. -/
def Mid (w0 wc : World) (B r p d : Nat) (an tl : Bool) (nc : Nat) (ts : List Tk) (txt : List Int) (ps : List Bool) (op ct cl : List Nat) (R : Fin 6 → Rw) : Prop :=
  ∃ R', DecS w0 wc B r p d an tl nc R' ts ∧ Cont R' txt ps op ct cl ∧ R' 3 = R 3 ∧ R' 4 = R 4

/-- A region of a code. -/
def findReg (n : Nat) : Code → Option Code
  | .region id ops b => if id = n then some (.region id ops b) else none
  | .scope c => findReg n c
  | .seq a b => match findReg n a with
    | some c => some c
    | none => findReg n b
  | .block _ c => findReg n c
  | .loop c => findReg n c
  | .cond _ a b => match findReg n a with
    | some c => some c
    | none => findReg n b
  | _ => none
/-- A region of closeOne. -/
noncomputable def closeRg (n : Nat) : Code := (Tryf.f14.body.bind (findReg n)).getD .skip
theorem wp_code {P : Program} {c c' : Code} {Q : Exit → Act → World → Prop} {a : Act} {w : World} (h : c = c') (hw : c'.wp P Q a w) : c.wp P Q a w := h ▸ hw
/-- A region's end: the frame, the world. -/
def RgPost (F : Act → Prop) (X : World → Prop) : Exit → Act → World → Prop
  | .normal, a, w' => F a ∧ X w'
  | _, _, _ => False
/-- A state behind a region: the rows of what is open stand. -/
def RgX (w0 : World) (B r p d : Nat) (an tl : Bool) (nc : Nat) (ts : List Tk) (txt : List Int) (ps : List Bool) (op ct cl : List Nat) (R1 : Fin 6 → Rw) (wc : World) : Prop :=
  ∃ R', DecS w0 wc B r p d an tl nc R' ts ∧ Cont R' txt ps op ct cl ∧ R' 3 = R1 3 ∧ R' 4 = R1 4

end Go.Proofs.YtcfhhcjcnafcjaaFmt
