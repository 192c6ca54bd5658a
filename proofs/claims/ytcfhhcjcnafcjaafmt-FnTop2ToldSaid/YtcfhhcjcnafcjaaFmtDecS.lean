/-
  The state of the reference's decoder as it lies in memory: the pattern's block, the decoder's block, six rows; laws on it: an append, a store, a call that moves the reader. Conditions as each states.
-/
import Derived.Test.YtcfhhcjcnafcjaaFmtRdCls
namespace Go.Proofs.YtcfhhcjcnafcjaaFmt
open Go.RowKit
set_option linter.unusedVariables false
set_option linter.unusedSimpArgs false

theorem below_grown {B : Nat} {a w w1 : World} {row : Option Nat} (h : Below B a w) (hB : B ≤ a.heap.size) (hg : w.grownBy w1 row) (hr : ∀ g, row = some g → B ≤ g) : Below B a w1 :=
  ⟨hg.os.trans h.os, hg.tape.trans h.tape, hg.output.trans h.output, Nat.le_trans h.size hg.size, fun i hi => (hg.block i (Nat.lt_of_lt_of_le hi (Nat.le_trans hB h.size)) (fun e => by have := hr i e.symm; omega)).trans (h.block i hi)⟩
/-- A row: where it lies, its room, how many, its cells. -/
structure Rw where
  ao : Option Addr
  cap : Nat
  n : Nat
  xs : List Value
def Rw.sl (r : Rw) : Value := .slice r.ao r.n r.cap
def rTy : Fin 6 → TypeId
  | 0 => 5
  | 1 => 59
  | 2 => 4
  | _ => 3
def rSz : Fin 6 → Nat
  | 1 => 8
  | _ => 1
/-- Where a row's field lies. -/
def fAt (p d : Nat) : Fin 6 → Addr
  | 0 => ⟨p, 0, none⟩
  | 1 => ⟨p, 1, none⟩
  | 2 => ⟨p, 5, none⟩
  | 3 => ⟨d, 1, none⟩
  | 4 => ⟨d, 2, none⟩
  | 5 => ⟨d, 3, none⟩
def upd (R : Fin 6 → Rw) (i : Fin 6) (r : Rw) : Fin 6 → Rw := fun j => if j = i then r else R j
theorem upd_same (R : Fin 6 → Rw) (i : Fin 6) (r : Rw) : upd R i r i = r := by simp [upd]
theorem upd_ne (R : Fin 6 → Rw) (i : Fin 6) (r : Rw) {j : Fin 6} (h : j ≠ i) : upd R i r j = R j := by simp [upd, h]
structure DecS (w0 w : World) (B r p d : Nat) (an tl : Bool) (nc : Nat) (R : Fin 6 → Rw) (ts : List Tk) : Prop where
  pblk : w.heap[p]? = some (.cells #[.slice (R 0).ao (R 0).n (R 0).cap, .slice (R 1).ao (R 1).n (R 1).cap, .bool an, .bool tl, .int .i64 (nc : Int), .slice (R 2).ao (R 2).n (R 2).cap] 35 (0, 0))
  dblk : w.heap[d]? = some (.cells #[.pointer (some ⟨p, 0, none⟩), .slice (R 3).ao (R 3).n (R 3).cap, .slice (R 4).ao (R 4).n (R 4).cap, .slice (R 5).ao (R 5).n (R 5).cap] 53 (0, 0))
  own : ∀ i, w.ownsRow B (rTy i) (rSz i) (.slice (R i).ao (R i).n (R i).cap) (R i).n (R i).xs
  dis : ∀ i j, i ≠ j → ∀ g, blkOf (R i).ao = some g → blkOf (R j).ao ≠ some g
  hp : B ≤ p
  hd : B ≤ d
  toks : TksAt w B ts (R 1).xs
  rd : RdAt w B r
  bel : Below B w0 w
  hB : B ≤ w0.heap.size
theorem rTy_pat (i : Fin 6) : rTy i ≠ 35 ∧ rTy i ≠ 53 ∧ rTy i ≠ 50 ∧ rTy i ≠ 84 := by
  match i with
  | 0 => decide
  | 1 => decide
  | 2 => decide
  | 3 => decide
  | 4 => decide
  | 5 => decide
section
variable {w0 w w' : World} {B r p d nc : Nat} {an tl : Bool} {R : Fin 6 → Rw} {ts : List Tk}
theorem DecS.pd (h : DecS w0 w B r p d an tl nc R ts) : p ≠ d := type_ne h.pblk h.dblk (by decide)
theorem DecS.rblk (h : DecS w0 w B r p d an tl nc R ts) : ∃ cs, w.heap[r]? = some (.cells cs 50 (0, 0)) := by
  obtain ⟨_, _, _, _, h1, _⟩ := h.rd
  exact ⟨_, h1⟩
theorem DecS.Bw (h : DecS w0 w B r p d an tl nc R ts) : B ≤ w.heap.size := Nat.le_trans h.hB h.bel.size
/-- Whatever leaves the state's own blocks, the items and all below B leaves the state. -/
theorem DecS.kept (h : DecS w0 w B r p d an tl nc R ts) (hp : w'.heap[p]? = w.heap[p]?) (hd : w'.heap[d]? = w.heap[d]?) (hr : w'.heap[r]? = w.heap[r]?) (ho : ∀ i g, blkOf (R i).ao = some g → w'.heap[g]? = w.heap[g]?) (hi : ItsKept w w' B) (hb : Below B w0 w') : DecS w0 w' B r p d an tl nc R ts :=
  ⟨hp.trans h.pblk, hd.trans h.dblk, fun i => owns_kept (h.own i) (fun g o hg h1 => (ho i g hg).trans h1), h.dis, h.hp, h.hd, h.toks.kept hi, h.rd.kept hr (fun k hk => by rw [hb.block k hk, h.bel.block k hk]), hb, h.hB⟩
theorem DecS.alloc (h : DecS w0 w B r p d an tl nc R ts) (o : Obj) : DecS w0 (w.alloc o) B r p d an tl nc R ts := by
  obtain ⟨cs, hr⟩ := h.rblk
  exact h.kept (Below.heap_alloc w o p (blk_lt h.pblk)) (Below.heap_alloc w o d (blk_lt h.dblk)) (Below.heap_alloc w o r (blk_lt hr)) (fun i g hg => Below.heap_alloc w o g (owns_lt (h.own i) g hg).2) (fun g cs r _ h1 => blk_alloc h1 o) (h.bel.alloc h.Bw o)
theorem DecS.drewN (h : DecS w0 w B r p d an tl nc R ts) (q : Nat) : DecS w0 (w.drewN q) B r p d an tl nc R ts :=
  h.kept rfl rfl rfl (fun _ _ _ => rfl) (fun _ _ _ _ h => h) (below_drewN h.bel q)
theorem DecS.drew (h : DecS w0 w B r p d an tl nc R ts) : DecS w0 w.drew B r p d an tl nc R ts := h.drewN 1
/-- A call that moves the reader. -/
theorem DecS.call (h : DecS w0 w B r p d an tl nc R ts) (hg : w.grownBy w' (some r)) (hr : RdAt w' B r) : DecS w0 w' B r p d an tl nc R ts := by
  obtain ⟨cs, hrb⟩ := h.rblk
  have hBr : B ≤ r := by obtain ⟨_, _, _, _, _, _, _, _, _, h1, _⟩ := h.rd; exact h1
  have key : ∀ g c T q, w.heap[g]? = some (Obj.cells c T q) → T ≠ 50 → w'.heap[g]? = w.heap[g]? := fun g c T q hgc hT =>
    hg.block g (blk_lt hgc) (fun e => by injection e with e; exact type_ne hgc hrb hT e)
  refine ⟨(key p _ _ _ h.pblk (by decide)).trans h.pblk, (key d _ _ _ h.dblk (by decide)).trans h.dblk, fun i => owns_kept (h.own i) (fun g o hgg h1 => ?_), h.dis, h.hp, h.hd, h.toks.kept (fun g cs q _ h1 => (key g _ _ _ h1 (by decide)).trans h1), hr, ?_, h.hB⟩
  · obtain ⟨c, hc⟩ := own_type (h.own i) g hgg
    exact (key g _ _ _ hc (rTy_pat i).2.2.1).trans h1
  · exact below_grown h.bel h.hB hg (fun g e => by injection e with e; omega)
/-- The next capture's number. -/
theorem DecS.setNc (h : DecS w0 w B r p d an tl nc R ts) (k : Nat) : DecS w0 (w.setCell ⟨p, 4, none⟩ (.int .i64 (k : Int))) B r p d an tl k R ts := by
  obtain ⟨cs, hrb⟩ := h.rblk
  have key : ∀ g c T q, w.heap[g]? = some (Obj.cells c T q) → T ≠ 35 → (w.setCell ⟨p, 4, none⟩ (.int .i64 (k : Int))).heap[g]? = w.heap[g]? := fun g c T q hgc hT =>
    Below.heap_setCell w ⟨p, 4, none⟩ _ g (type_ne hgc h.pblk hT)
  have hb := h.bel.setCell (p := ⟨p, 4, none⟩) h.hp (.int .i64 (k : Int))
  refine ⟨blk_set h.pblk 4 _, (key d _ _ _ h.dblk (by decide)).trans h.dblk, fun i => owns_kept (h.own i) (fun g o hgg h1 => ?_), h.dis, h.hp, h.hd, h.toks.kept (fun g cs q _ h1 => (key g _ _ _ h1 (by decide)).trans h1), h.rd.kept (key r _ _ _ hrb (by decide)) (fun k hk => by rw [hb.block k hk, h.bel.block k hk]), hb, h.hB⟩
  obtain ⟨c, hc⟩ := own_type (h.own i) g hgg
  exact (key g _ _ _ hc (rTy_pat i).1).trans h1
/-- A store into a row. -/
theorem DecS.poke (h : DecS w0 w B r p d an tl nc R ts) {i : Fin 6} (hi : i ≠ 1) {g : Nat} (hg : (R i).ao = some ⟨g, 0, none⟩) (k : Nat) (v : Value) : DecS w0 (w.setCell ⟨g, k, none⟩ v) B r p d an tl nc (upd R i ⟨(R i).ao, (R i).cap, (R i).n, (R i).xs.set k v⟩) ts := by
  obtain ⟨cs, hrb⟩ := h.rblk
  have hbo : blkOf (R i).ao = some g := by rw [hg]; rfl
  obtain ⟨cg, hcg⟩ := own_type (h.own i) g hbo
  have key : ∀ x c T q, w.heap[x]? = some (Obj.cells c T q) → rTy i ≠ T → (w.setCell ⟨g, k, none⟩ v).heap[x]? = w.heap[x]? := fun x c T q hgc hT =>
    Below.heap_setCell w ⟨g, k, none⟩ _ x (fun e => type_ne hcg hgc hT e.symm)
  have hb := h.bel.setCell (p := ⟨g, k, none⟩) (owns_lt (h.own i) g hbo).1 v
  have e0 : ∀ j, ((upd R i ⟨(R i).ao, (R i).cap, (R i).n, (R i).xs.set k v⟩) j).ao = (R j).ao ∧ ((upd R i ⟨(R i).ao, (R i).cap, (R i).n, (R i).xs.set k v⟩) j).n = (R j).n ∧ ((upd R i ⟨(R i).ao, (R i).cap, (R i).n, (R i).xs.set k v⟩) j).cap = (R j).cap := fun j => by
    unfold upd
    split
    · subst_vars; exact ⟨rfl, rfl, rfl⟩
    · exact ⟨rfl, rfl, rfl⟩
  refine ⟨?_, ?_, fun j => ?_, fun a b hab x => ?_, h.hp, h.hd, ?_, h.rd.kept (key r _ _ _ hrb (rTy_pat i).2.2.1) (fun k hk => by rw [hb.block k hk, h.bel.block k hk]), hb, h.hB⟩
  · rw [(e0 0).1, (e0 0).2.1, (e0 0).2.2, (e0 1).1, (e0 1).2.1, (e0 1).2.2, (e0 2).1, (e0 2).2.1, (e0 2).2.2]
    exact (key p _ _ _ h.pblk (rTy_pat i).1).trans h.pblk
  · rw [(e0 3).1, (e0 3).2.1, (e0 3).2.2, (e0 4).1, (e0 4).2.1, (e0 4).2.2, (e0 5).1, (e0 5).2.1, (e0 5).2.2]
    exact (key d _ _ _ h.dblk (rTy_pat i).2.1).trans h.dblk
  · by_cases hj : j = i
    · subst hj
      rw [upd_same]
      have h1 := h.own j
      rw [hg] at h1 ⊢
      exact (World.ownsRow.stored h1 k v).1
    · rw [upd_ne _ _ _ hj]
      exact owns_kept (h.own j) (fun x o hx h1 => (Below.heap_setCell w ⟨g, k, none⟩ v x (fun e => h.dis j i hj x hx (by rw [hbo, e]))).trans h1)
  · rw [(e0 a).1, (e0 b).1]; exact h.dis a b hab x
  · rw [upd_ne _ _ _ (Ne.symm hi)]
    exact h.toks.kept (fun x cs q _ h1 => (key x _ _ _ h1 (rTy_pat i).2.2.2).trans h1)
theorem upd_field (R : Fin 6 → Rw) (i j : Fin 6) (x : Rw) (h : j ≠ i) : ((upd R i x) j).ao = (R j).ao ∧ ((upd R i x) j).n = (R j).n ∧ ((upd R i x) j).cap = (R j).cap := by
  rw [upd_ne _ _ _ h]; exact ⟨rfl, rfl, rfl⟩
/-- The field of a row is stored anew. -/
theorem DecS.field {i : Fin 6} {x : Rw} (hpb : w.heap[p]? = some (.cells #[.slice (R 0).ao (R 0).n (R 0).cap, .slice (R 1).ao (R 1).n (R 1).cap, .bool an, .bool tl, .int .i64 (nc : Int), .slice (R 2).ao (R 2).n (R 2).cap] 35 (0, 0)))
    (hdb : w.heap[d]? = some (.cells #[.pointer (some ⟨p, 0, none⟩), .slice (R 3).ao (R 3).n (R 3).cap, .slice (R 4).ao (R 4).n (R 4).cap, .slice (R 5).ao (R 5).n (R 5).cap] 53 (0, 0)))
    (hown : w.ownsRow B (rTy i) (rSz i) (.slice x.ao x.n x.cap) x.n x.xs) (hoth : ∀ j, j ≠ i → w.ownsRow B (rTy j) (rSz j) (.slice (R j).ao (R j).n (R j).cap) (R j).n (R j).xs)
    (hd0 : ∀ j k, j ≠ i → k ≠ i → j ≠ k → ∀ g, blkOf (R j).ao = some g → blkOf (R k).ao ≠ some g) (hd1 : ∀ j, j ≠ i → ∀ g, blkOf (R j).ao = some g → blkOf x.ao ≠ some g)
    (hp : B ≤ p) (hd : B ≤ d) (htk : TksAt w B ts (upd R i x 1).xs) (hrd : RdAt w B r) (hb : Below B w0 w) (hB : B ≤ w0.heap.size) :
    DecS w0 (w.setCell (fAt p d i) (.slice x.ao x.n x.cap)) B r p d an tl nc (upd R i x) ts := by
  obtain ⟨_, _, _, _, hrb, _⟩ := id hrd
  have hpd : p ≠ d := type_ne hpb hdb (by decide)
  have hbk : (fAt p d i).block = p ∨ (fAt p d i).block = d := by
    match i with
    | 0 => exact .inl rfl
    | 1 => exact .inl rfl
    | 2 => exact .inl rfl
    | 3 => exact .inr rfl
    | 4 => exact .inr rfl
    | 5 => exact .inr rfl
  have key : ∀ g c T q, w.heap[g]? = some (Obj.cells c T q) → T ≠ 35 → T ≠ 53 → (w.setCell (fAt p d i) (.slice x.ao x.n x.cap)).heap[g]? = w.heap[g]? := fun g c T q hgc h1 h2 =>
    Below.heap_setCell w _ _ g (by
      rcases hbk with e | e
      · rw [e]; exact type_ne hgc hpb h1
      · rw [e]; exact type_ne hgc hdb h2)
  have hb' := hb.setCell (p := fAt p d i) (by rcases hbk with e | e <;> rw [e] <;> assumption) (.slice x.ao x.n x.cap)
  have rows : ∀ {j : Fin 6} {n cap : Nat} {ao : Option Addr} {xs : List Value}, w.ownsRow B (rTy j) (rSz j) (.slice ao n cap) n xs → (w.setCell (fAt p d i) (.slice x.ao x.n x.cap)).ownsRow B (rTy j) (rSz j) (.slice ao n cap) n xs := @fun j n cap ao xs ho => owns_kept ho (fun g o hg h1 => by
    obtain ⟨c, hc⟩ := own_type ho g hg
    exact (key g _ _ _ hc (rTy_pat j).1 (rTy_pat j).2.1).trans h1)
  refine ⟨?_, ?_, fun j => ?_, fun a b hab g hga => ?_, hp, hd, htk.kept (fun g cs q _ h1 => (key g _ _ _ h1 (by decide) (by decide)).trans h1), hrd.kept (key r _ _ _ hrb (by decide) (by decide)) (fun k hk => by rw [hb'.block k hk, hb.block k hk]), hb', hB⟩
  · match i with
    | 0 => exact blk_set hpb 0 _
    | 1 => exact blk_set hpb 1 _
    | 2 => exact blk_set hpb 5 _
    | 3 => exact (Below.heap_setCell w ⟨d, 1, none⟩ _ p hpd).trans hpb
    | 4 => exact (Below.heap_setCell w ⟨d, 2, none⟩ _ p hpd).trans hpb
    | 5 => exact (Below.heap_setCell w ⟨d, 3, none⟩ _ p hpd).trans hpb
  · match i with
    | 0 => exact (Below.heap_setCell w ⟨p, 0, none⟩ _ d hpd.symm).trans hdb
    | 1 => exact (Below.heap_setCell w ⟨p, 1, none⟩ _ d hpd.symm).trans hdb
    | 2 => exact (Below.heap_setCell w ⟨p, 5, none⟩ _ d hpd.symm).trans hdb
    | 3 => exact blk_set hdb 1 _
    | 4 => exact blk_set hdb 2 _
    | 5 => exact blk_set hdb 3 _
  · by_cases hj : j = i
    · subst hj; rw [upd_same]; exact rows hown
    · rw [upd_ne _ _ _ hj]; exact rows (hoth j hj)
  · by_cases ha : a = i
    · subst ha
      rw [upd_same] at hga
      rw [upd_ne _ _ _ (Ne.symm hab)]
      exact fun e => hd1 b (Ne.symm hab) g e hga
    · rw [upd_ne _ _ _ ha] at hga
      by_cases hb2 : b = i
      · subst hb2; rw [upd_same]; exact hd1 a ha g hga
      · rw [upd_ne _ _ _ hb2]; exact hd0 a b ha hb2 hab g hga
/-- An append to a row, and the store of its field. -/
theorem DecS.push (h : DecS w0 w B r p d an tl nc R ts) (i : Fin 6) {g1 c1 n1 : Nat} {xs1 : List Value} {ts' : List Tk} (hown : w'.ownsRow B (rTy i) (rSz i) (.slice (some ⟨g1, 0, none⟩) n1 c1) n1 xs1) (hg : w.grownBy w' (blkOf (R i).ao)) (hat : blkOf (R i).ao = some g1 ∨ w.heap.size ≤ g1)
    (htk : TksAt w B ts' (upd R i ⟨some ⟨g1, 0, none⟩, c1, n1, xs1⟩ 1).xs) :
    DecS w0 (w'.setCell (fAt p d i) (.slice (some ⟨g1, 0, none⟩) n1 c1)) B r p d an tl nc (upd R i ⟨some ⟨g1, 0, none⟩, c1, n1, xs1⟩) ts' := by
  have hty : ∀ x c T q, w.heap[x]? = some (Obj.cells c T q) → rTy i ≠ T → w'.heap[x]? = w.heap[x]? := fun x c T q hx hT => hg.block x (blk_lt hx) (fun e => by
    obtain ⟨c', hc'⟩ := own_type (h.own i) x e.symm
    exact type_ne hc' hx hT rfl)
  obtain ⟨cs, hrb⟩ := h.rblk
  have hb' : Below B w0 w' := below_grown h.bel h.hB hg (fun g e => (owns_lt (h.own i) g e).1)
  refine DecS.field (i := i) (x := ⟨some ⟨g1, 0, none⟩, c1, n1, xs1⟩) ((hty p _ _ _ h.pblk (rTy_pat i).1).trans h.pblk) ((hty d _ _ _ h.dblk (rTy_pat i).2.1).trans h.dblk) hown (fun j hj => owns_kept (h.own j) (fun g o hgg h1 => (hg.block g (owns_lt (h.own j) g hgg).2 (fun e => h.dis j i hj g hgg e.symm)).trans h1))
    (fun j k _ _ hjk => h.dis j k hjk) (fun j hj g hgj e => ?_) h.hp h.hd (htk.kept (fun g cs q _ h1 => (hty g _ _ _ h1 (rTy_pat i).2.2.2).trans h1)) (h.rd.kept (hty r _ _ _ hrb (rTy_pat i).2.2.1) (fun k hk => by rw [hb'.block k hk, h.bel.block k hk])) hb' h.hB
  simp only [blkOf, Option.map_some, Option.some.injEq] at e
  subst e
  rcases hat with hat | hat
  · exact h.dis j i hj _ hgj hat
  · have := (owns_lt (h.own j) _ hgj).2; omega
/-- A row cut short. -/
theorem DecS.cut (h : DecS w0 w B r p d an tl nc R ts) (i : Fin 6) (hi : i ≠ 1) {g : Nat} (hg : (R i).ao = some ⟨g, 0, none⟩) {k : Nat} (hk : k ≤ (R i).n) (hs : rSz i = 1) :
    DecS w0 (w.setCell (fAt p d i) (.slice (R i).ao k (R i).cap)) B r p d an tl nc (upd R i ⟨(R i).ao, (R i).cap, k, (R i).xs.take k⟩) ts := by
  refine DecS.field (i := i) (x := ⟨(R i).ao, (R i).cap, k, (R i).xs.take k⟩) h.pblk h.dblk ?_ (fun j _ => h.own j) (fun j k _ _ hjk => h.dis j k hjk) (fun j hj => h.dis j i hj) h.hp h.hd (by rw [upd_ne _ _ _ (Ne.symm hi)]; exact h.toks) h.rd h.bel h.hB
  have h1 := h.own i
  simp only [hs, hg] at h1 ⊢
  exact owns_take h1 hk
end
end Go.Proofs.YtcfhhcjcnafcjaaFmt
