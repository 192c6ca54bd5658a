/-
  The contract of the reference's reading of a class. Its condition: the reader lies in memory as told.
-/
import Derived.Test.YtcfhhcjcnafcjaaFmtTkAll
import Derived.Great.BuildSlice
import Derived.Laws.IdiomStrings
namespace Go.Proofs.YtcfhhcjcnafcjaaFmt
open Go.RowKit
set_option linter.unusedVariables false
set_option linter.unusedSimpArgs false

def u8s (l : List Int) : List Value := l.map (.int .u8 ·)
theorem u8s_app (a b : List Int) : u8s (a ++ b) = u8s a ++ u8s b := by simp [u8s]
/-- What the reading of a class hands back. -/
def RcPost (w : World) (B r : Nat) (e : Ending) (w' : World) : Prop :=
  ∃ (c : CK) (xs : List Value) (ao : Option Addr) (cap : Nat), c.ok ∧ CkAt w' w.heap.size c xs ∧ e = .returned (.tuple #[.agg xs.toArray, .slice ao c.txt.length cap]) ∧ w'.ownsRow w.heap.size 5 1 (.slice ao c.txt.length cap) c.txt.length (u8s c.txt) ∧ RdAt w' B r ∧ w.grownBy w' (some r)
theorem RdAt.alloc {w : World} {B r : Nat} (h : RdAt w B r) (hB : B ≤ w.heap.size) (o : Obj) : RdAt (w.alloc o) B r := h.grown (one_alloc (one_refl w none) o) (fun e => by cases e) (fun x e => by cases e) hB
theorem RdAt.lt {w : World} {B r : Nat} (h : RdAt w B r) : r < w.heap.size := by obtain ⟨_, _, _, _, h1, _⟩ := h; exact blk_lt h1
theorem there_blk {w : World} {b : Nat} {cs : Array Value} {T : TypeId} (h : w.heap[b]? = some (.cells cs T (0, 0))) {n : Nat} (hn : n = cs.size) : w.there b 0 n := fun j hj => by
  rw [Nat.zero_add, blk_cell h j _ (Array.getElem?_eq_getElem (by omega))]
  exact ⟨rfl, blk_free h j⟩
theorem sets4 {w : World} {b : Nat} {x0 x1 x2 x3 a0 a1 a2 a3 : Value} {T : TypeId} {r : Nat × Nat} (h : w.heap[b]? = some (.cells #[x0, x1, x2, x3] T r)) : (w.setCells b 0 [a0, a1, a2, a3]).heap[b]? = some (.cells #[a0, a1, a2, a3] T r) :=
  blk_set (blk_set (blk_set (blk_set h 0 a0) 1 a1) 2 a2) 3 a3
theorem sets_grown {a : World} {b g : Nat} (hb : b = g ∨ a.heap.size ≤ b) : ∀ (vs : List Value) (o : Nat) (w : World), a.grownBy w (some g) → a.grownBy (w.setCells b o vs) (some g)
  | [], o, w, h => h
  | v :: vs, o, w, h => sets_grown hb vs (o + 1) _ (one_setCell h (p := ⟨b, o, none⟩) hb v)
theorem sets_other {b k : Nat} (hk : k ≠ b) : ∀ (vs : List Value) (o : Nat) (w : World), (w.setCells b o vs).heap[k]? = w.heap[k]?
  | [], o, w => rfl
  | v :: vs, o, w => (sets_other hk vs (o + 1) _).trans (Below.heap_setCell w ⟨b, o, none⟩ v k hk)
theorem rc_results {tmps : Array Value} {w : World} {g : Nat} {a0 a1 a2 a3 v3 : Value} (hp : tmps.getD 2 undef = .pointer (some ⟨g, 0, none⟩)) (h3 : tmps.getD 3 undef = v3) (hg : w.heap[g]? = some (.cells #[a0, a1, a2, a3] 57 (0, 0))) :
    (results Tryf.f15 tmps).run Tryf.prog w = .ok (.tuple #[.agg #[a0, a1, a2, a3], v3]) w := by
  have hp' : tmps[2]?.getD undef = .pointer (some ⟨g, 0, none⟩) := by simpa using hp
  have h3' : tmps[3]?.getD undef = v3 := by simpa using h3
  have c0 := blk_cell hg 0 _ rfl
  have c1 := blk_cell hg 1 _ rfl
  have c2 := blk_cell hg 2 _ rfl
  have c3 := blk_cell hg 3 _ rfl
  simp [results, Tryf.results15, hp', h3', asAddr, go_sem, c0, c1, c2, c3]
theorem u8_row (w : World) (l : List Int) {n : Nat} (hn : l.length = n) (hl : n ≤ 1048576) : (w.alloc (.cells (u8s l).toArray 5)).ownsRow w.heap.size 5 1 (.slice (some ⟨w.heap.size, 0, none⟩) n n) n (u8s l) := by
  subst hn
  have := World.ownsRow_lit (e := 5) (size := 1) w (u8s l).toArray (base := w.heap.size) l.length (Nat.le_refl _) (by unfold maxLen; omega) (by simp [u8s])
  simpa using this
/-- A class that is no set: what is handed back. -/
theorem rc_done {w w1 w2 : World} {B r : Nat} {c : CK} {a0 a1 a2 a3 : Value} {n : Nat} (hok : c.ok) (hn : c.txt.length = n) (hB : B ≤ w.heap.size) (hr : RdAt w1 B r) (hg : w.grownBy w1 (some r)) (hw : w.heap.size + 1 ≤ w1.heap.size) (hrl : r < w.heap.size)
    (hw2 : w2 = (w1.alloc (.cells (u8s c.txt).toArray 5)).setCells w.heap.size 0 [a0, a1, a2, a3]) (hc : ∀ W, CkAt W w.heap.size c [a0, a1, a2, a3]) (hs : n ≤ 1048576) :
    RcPost w B r (.returned (.tuple #[.agg #[a0, a1, a2, a3], .slice (some ⟨w1.heap.size, 0, none⟩) n n])) w2 := by
  subst hn
  have hg2 : w.grownBy w2 (some r) := by rw [hw2]; exact sets_grown (.inr (Nat.le_refl _)) _ _ _ (one_alloc hg _)
  refine ⟨c, _, _, _, hok, hc _, rfl, ?_, ?_, hg2⟩
  · have h1 := u8_row w1 c.txt rfl hs
    rw [hw2]
    exact owns_base (owns_kept h1 (fun g o hgg ho => by
      rw [sets_other (by simp only [blkOf, Option.map_some, Option.some.injEq] at hgg; omega)]
      exact ho)) (by omega)
  · rw [hw2]
    have h1 := hr.alloc (by omega) (.cells (u8s c.txt).toArray 5)
    exact h1.kept (sets_other (by omega) _ _ _) (fun k hk => sets_other (by omega) _ _ _)
theorem idx13 (k : Nat) (hk : k < 13) (W : World) : (Instr.index 9 (.string ⟨#[97, 98, 99, 120, 121, 122, 48, 49, 32, 95, 65, 0, 255]⟩) (.int .i64 (k : Int))).run Tryf.prog W = .ok (.int .u8 (lits13.getD k 0)) W := by
  have h : k = 0 ∨ k = 1 ∨ k = 2 ∨ k = 3 ∨ k = 4 ∨ k = 5 ∨ k = 6 ∨ k = 7 ∨ k = 8 ∨ k = 9 ∨ k = 10 ∨ k = 11 ∨ k = 12 := by omega
  rcases h with rfl | rfl | rfl | rfl | rfl | rfl | rfl | rfl | rfl | rfl | rfl | rfl | rfl
  all_goals
    rw [run_index_string W _ _ _ _ Tryf.underlying9]
    rfl
theorem idx10 (k : Nat) (hk : k < 10) (W : World) : (Instr.index 9 (.string ⟨#[97, 98, 99, 120, 121, 122, 48, 49, 46, 95]⟩) (.int .i64 (k : Int))).run Tryf.prog W = .ok (.int .u8 (sets10.getD k 0)) W := by
  have h : k = 0 ∨ k = 1 ∨ k = 2 ∨ k = 3 ∨ k = 4 ∨ k = 5 ∨ k = 6 ∨ k = 7 ∨ k = 8 ∨ k = 9 := by omega
  rcases h with rfl | rfl | rfl | rfl | rfl | rfl | rfl | rfl | rfl | rfl
  all_goals
    rw [run_index_string W _ _ _ _ Tryf.underlying9]
    rfl
theorem idx12 (k : Nat) (hk : k < 6) (W : World) : (Instr.index 9 (.string ⟨#[97, 99, 120, 122, 48, 57, 98, 98, 99, 97, 65, 90]⟩) (.int .i64 (2 * (k : Int)))).run Tryf.prog W = .ok (.int .u8 (rngs6.getD k (0, 0)).1) W ∧
    (Instr.index 9 (.string ⟨#[97, 99, 120, 122, 48, 57, 98, 98, 99, 97, 65, 90]⟩) (.int .i64 (2 * (k : Int) + 1))).run Tryf.prog W = .ok (.int .u8 (rngs6.getD k (0, 0)).2) W := by
  have h : k = 0 ∨ k = 1 ∨ k = 2 ∨ k = 3 ∨ k = 4 ∨ k = 5 := by omega
  rcases h with rfl | rfl | rfl | rfl | rfl | rfl
  all_goals
    rw [run_index_string W _ _ _ _ Tryf.underlying9, run_index_string W _ _ _ _ Tryf.underlying9]
    exact ⟨rfl, rfl⟩
theorem si_info : (Tryf.prog.info? 84).map (fun i => (i.zero, i.size, i.bytes)) = some (some (.agg #[.int .i64 0, .int .i64 0, .int .i64 0]), 3, 24) := by kernel_rfl
theorem u8_info : (Tryf.prog.info? 5).map (fun i => (i.zero, i.size, i.bytes)) = some (some (.int .u8 0), 1, 1) := by kernel_rfl
theorem one_more {a w w' : World} {g : Nat} {row : Option Nat} (h : a.grownBy w (some g)) (k : w.grownBy w' row) (hr : ∀ x, row = some x → x = g ∨ a.heap.size ≤ x) : a.grownBy w' (some g) :=
  ⟨k.os.trans h.os, k.tape.trans h.tape, k.output.trans h.output, Nat.le_trans h.size k.size, fun i hi hne => (k.block i (Nat.lt_of_lt_of_le hi h.size) (fun e => by
    rcases hr i e.symm with h1 | h1
    · exact hne (by rw [h1])
    · omega)).trans (h.block i hi hne)⟩
/-- A set as it is being read. -/
structure RcS (w : World) (B r cb : Nat) (neg : Bool) (its : List SI) (tx : List Int) (n m : Nat) (wr : World) (ta : Option Addr) (tc : Nat) (ia : Option Addr) (ic : Nat) : Prop where
  res : wr.heap[w.heap.size]? = some (.cells #[.int .i64 0, .int .i64 0, .bool false, .slice none 0 0] 57 (0, 0))
  cl : wr.heap[cb]? = some (.cells #[.int .i64 3, .int .i64 0, .bool neg, .slice ia m ic] 57 (0, 0))
  trow : wr.ownsRow (w.heap.size + 1) 5 1 (.slice ta n tc) n (u8s tx)
  irow : wr.ownsRow (w.heap.size + 1) 84 3 (.slice ia m ic) m (sicells its)
  tl : tx.length = n
  il : its.length = m
  rd : RdAt wr B r
  gr : w.grownBy wr (some r)
  ok : ∀ i, i ∈ its → i.ok
  cbn : w.heap.size < cb
section
variable {w wr w' : World} {B r cb n m : Nat} {neg : Bool} {its : List SI} {tx : List Int} {ta ia : Option Addr} {tc ic : Nat}
theorem RcS.call (h : RcS w B r cb neg its tx n m wr ta tc ia ic) (hg : wr.grownBy w' (some r)) (hr : RdAt w' B r) (hrl : r < w.heap.size) : RcS w B r cb neg its tx n m w' ta tc ia ic := by
  have hc := h.cbn
  exact ⟨blk_grown h.res hg (fun e => by injection e; omega), blk_grown h.cl hg (fun e => by injection e; omega), owns_kept h.trow (fun g o hgg ho => blk_grown ho hg (fun e => by injection e with e; have := (owns_lt h.trow g hgg).1; omega)),
    owns_kept h.irow (fun g o hgg ho => blk_grown ho hg (fun e => by injection e with e; have := (owns_lt h.irow g hgg).1; omega)), h.tl, h.il, hr, one_trans h.gr hg, h.ok, hc⟩
theorem RcS.alloc (h : RcS w B r cb neg its tx n m wr ta tc ia ic) (hB : B ≤ w.heap.size) (o : Obj) : RcS w B r cb neg its tx n m (wr.alloc o) ta tc ia ic :=
  ⟨blk_alloc h.res o, blk_alloc h.cl o, h.trow.alloc o, h.irow.alloc o, h.tl, h.il, h.rd.alloc (Nat.le_trans hB h.gr.size) o, one_alloc h.gr o, h.ok, h.cbn⟩
theorem RcS.drewN (h : RcS w B r cb neg its tx n m wr ta tc ia ic) (q : Nat) : RcS w B r cb neg its tx n m (wr.drewN q) ta tc ia ic :=
  ⟨h.res, h.cl, owns_kept h.trow (fun _ _ _ h => h), owns_kept h.irow (fun _ _ _ h => h), h.tl, h.il, h.rd.kept rfl (fun _ _ => rfl), one_drewN h.gr q, h.ok, h.cbn⟩
theorem RcS.pushT {g1 c1 k : Nat} {news : List Int} (h : RcS w B r cb neg its tx n m wr ta tc ia ic) (hB : B ≤ w.heap.size) (hrl : r < w.heap.size) (hn : news.length = k) (hown : w'.ownsRow (w.heap.size + 1) 5 1 (.slice (some ⟨g1, 0, none⟩) (n + k) c1) (n + k) (u8s tx ++ u8s news)) (hg : wr.grownBy w' (blkOf ta)) :
    RcS w B r cb neg its (tx ++ news) (n + k) m w' (some ⟨g1, 0, none⟩) c1 ia ic := by
  subst hn
  have hta : ∀ x, blkOf ta = some x → w.heap.size + 1 ≤ x := fun x hx => (owns_lt h.trow x hx).1
  have htt : ∀ x c T r, blkOf ta = some x → wr.heap[x]? = some (.cells c T r) → T = 5 := fun x c T r hx hc => by
    obtain ⟨c', hc'⟩ := own_type h.trow x hx
    rw [hc] at hc'
    injection hc' with hc'
    injection hc'
  have hs := h.gr.size
  refine ⟨blk_grown h.res hg (fun e => by have := hta _ e.symm; omega), blk_grown h.cl hg (fun e => by have := htt _ _ _ _ e.symm h.cl; exact absurd this (by decide)), ?_, owns_kept h.irow (fun g o hgg ho => blk_grown ho hg (fun e => ?_)), by rw [List.length_append, h.tl], h.il, h.rd.grown hg (fun e => by have := hta _ e; omega) (fun x e => by have := hta _ e; omega) (by omega), one_more h.gr hg (fun x e => .inr (by have := hta _ e; omega)), h.ok, h.cbn⟩
  · rw [u8s_app]; exact hown
  · obtain ⟨c, hc⟩ := own_type h.irow g hgg
    have := htt _ _ _ _ e.symm hc
    exact absurd this (by decide)
theorem RcS.pushI {g1 c1 : Nat} {i : SI} (h : RcS w B r cb neg its tx n m wr ta tc ia ic) (hB : B ≤ w.heap.size) (hrl : r < w.heap.size) (hi : i.ok) (hown : w'.ownsRow (w.heap.size + 1) 84 3 (.slice (some ⟨g1, 0, none⟩) (m + 1) c1) (m + 1) (sicells its ++ i.cells)) (hg : wr.grownBy w' (blkOf ia)) (hat : blkOf ia = some g1 ∨ wr.heap.size ≤ g1) :
    RcS w B r cb neg (its ++ [i]) tx n (m + 1) (w'.setCell ⟨cb, 3, none⟩ (.slice (some ⟨g1, 0, none⟩) (m + 1) c1)) ta tc (some ⟨g1, 0, none⟩) c1 := by
  have hia : ∀ x, blkOf ia = some x → w.heap.size + 1 ≤ x := fun x hx => (owns_lt h.irow x hx).1
  have hit : ∀ x c T r, blkOf ia = some x → wr.heap[x]? = some (.cells c T r) → T = 84 := fun x c T r hx hc => by
    obtain ⟨c', hc'⟩ := own_type h.irow x hx
    rw [hc] at hc'
    injection hc' with hc'
    injection hc'
  have hs := h.gr.size
  have hcb := h.cbn
  have hcl := blk_grown h.cl hg (fun e => by have := hit _ _ _ _ e.symm h.cl; exact absurd this (by decide))
  have hcg : g1 ≠ cb := by
    obtain ⟨c, hc⟩ := own_type hown g1 rfl
    exact type_ne hc hcl (by decide)
  have hset : ∀ k, k ≠ cb → (w'.setCell ⟨cb, 3, none⟩ (.slice (some ⟨g1, 0, none⟩) (m + 1) c1)).heap[k]? = w'.heap[k]? := fun k hk => Below.heap_setCell w' ⟨cb, 3, none⟩ _ k hk
  have hrow : ∀ {T : TypeId} {sz n cap : Nat} {ao : Option Addr} {xs : List Value}, w'.ownsRow (w.heap.size + 1) T sz (.slice ao n cap) n xs → T ≠ 57 → (w'.setCell ⟨cb, 3, none⟩ (.slice (some ⟨g1, 0, none⟩) (m + 1) c1)).ownsRow (w.heap.size + 1) T sz (.slice ao n cap) n xs := fun ho hT => owns_kept ho (fun g o hgg ho' => (hset g (by
    obtain ⟨c, hc⟩ := own_type ho g hgg
    exact type_ne hc hcl hT)).trans ho')
  refine ⟨(hset _ (by omega)).trans (blk_grown h.res hg (fun e => by have := hia _ e.symm; omega)), ?_, hrow (owns_kept h.trow (fun g o hgg ho => blk_grown ho hg (fun e => ?_))) (by decide), ?_, h.tl, by rw [List.length_append, h.il]; rfl, ?_, one_setCell (one_more h.gr hg (fun x e => .inr (by have := hia _ e; omega))) (.inr (by simp only; omega)) _, ?_, hcb⟩
  · exact blk_set hcl 3 _
  · obtain ⟨c, hc⟩ := own_type h.trow g hgg
    have := hit _ _ _ _ e.symm hc
    exact absurd this (by decide)
  · rw [sicells_app, sicells_one]
    exact hrow hown (by decide)
  · have h1 := h.rd.grown hg (fun e => by have := hia _ e; omega) (fun x e => by have := hia _ e; omega) (by omega)
    exact h1.kept (hset _ (by omega)) (fun k hk => hset _ (by omega))
  · intro j hj
    simp only [List.mem_append, List.mem_singleton] at hj
    rcases hj with hj | rfl
    · exact h.ok j hj
    · exact hi
theorem RcS.kept_cl (h : RcS w B r cb neg its tx n m wr ta tc ia ic) (hg : wr.grownBy w' (blkOf ia)) : w'.heap[cb]? = some (.cells #[.int .i64 3, .int .i64 0, .bool neg, .slice ia m ic] 57 (0, 0)) :=
  blk_grown h.cl hg (fun e => by
    obtain ⟨c', hc'⟩ := own_type h.irow _ e.symm
    rw [h.cl] at hc'
    injection hc' with hc'
    injection hc' with _ h2
    exact absurd h2 (by decide))
theorem RcS.done (h : RcS w B r cb neg its tx n m wr ta tc ia ic) (hB : B ≤ w.heap.size) (hrl : r < w.heap.size) (hne : its ≠ []) (h4 : its.length ≤ 4) (htx : tx = (CK.set neg its).txt) :
    RcPost w B r (.returned (.tuple #[.agg #[.int .i64 3, .int .i64 0, .bool neg, .slice ia m ic], .slice ta n tc])) (wr.setCells w.heap.size 0 [.int .i64 3, .int .i64 0, .bool neg, .slice ia m ic]) := by
  obtain rfl := h.tl
  obtain rfl := h.il
  have hs := h.gr.size
  have hset : ∀ k, k ≠ w.heap.size → (wr.setCells w.heap.size 0 [.int .i64 3, .int .i64 0, .bool neg, .slice ia its.length ic]).heap[k]? = wr.heap[k]? := fun k hk => sets_other hk _ _ _
  refine ⟨.set neg its, _, _, _, ⟨hne, h4, h.ok⟩, .set (owns_base (owns_kept h.irow (fun g o hgg ho => (hset g (by have := (owns_lt h.irow g hgg).1; omega)).trans ho)) (by omega)), by rw [← htx], ?_, h.rd.kept (hset _ (by omega)) (fun k hk => hset _ (by omega)), sets_grown (.inr (Nat.le_refl _)) _ _ _ h.gr⟩
  rw [← htx]
  exact owns_base (owns_kept h.trow (fun g o hgg ho => (hset g (by have := (owns_lt h.trow g hgg).1; omega)).trans ho)) (by omega)
end
theorem news_any {W : World} {cs : Array Value} {T : TypeId} {n : Nat} {l : List Value} (h : W.heap.size = n) (hl : l = cs.toList := by rfl) : ∀ (j : Nat) (u : Value), l[j]? = some u → (W.alloc (.cells cs T)).cell? ((⟨n, 0, none⟩ : Addr).add j) = some u := by
  subst h hl
  intro j u hj
  rw [addr_add, Nat.zero_add]
  exact blk_cell (blk_new _ _) j _ (by simpa using hj)
theorem si_len : ∀ l : List SI, (l.flatMap SI.txt).length ≤ 3 * l.length
  | [] => by simp
  | i :: l => by
    have := si_len l
    have hi : i.txt.length ≤ 3 := by cases i <;> simp [SI.txt]
    simp only [List.flatMap_cons, List.length_append, List.length_cons]
    omega
theorem rcs_start {w w1 : World} {B r : Nat} (neg : Bool) (hB : B ≤ w.heap.size) (hr : RdAt w1 B r) (hg : w.grownBy w1 (some r)) (hz : w1.heap[w.heap.size]? = some (.cells #[.int .i64 0, .int .i64 0, .bool false, .slice none 0 0] 57 (0, 0))) (hs : w.heap.size + 1 ≤ w1.heap.size) (hrl : r < w.heap.size) :
    RcS w B r w1.heap.size neg [] [91] 1 0 ((w1.alloc (.cells #[.int .i64 3, .int .i64 0, .bool neg, .slice none 0 0] 57)).alloc (.cells #[.int .u8 91] 5)) (some ⟨w1.heap.size + 1, 0, none⟩) 1 none 0 := by
  have hu := u8_row (w1.alloc (.cells #[.int .i64 3, .int .i64 0, .bool neg, .slice none 0 0] 57)) [91] (n := 1) rfl (by omega)
  have e1 : (w1.alloc (.cells #[.int .i64 3, .int .i64 0, .bool neg, .slice none 0 0] 57)).heap.size = w1.heap.size + 1 := by simp
  rw [e1] at hu
  exact ⟨blk_alloc (blk_alloc hz _) _, blk_alloc (blk_new _ _) _, owns_base hu (by omega), ⟨rfl, .inl ⟨rfl, rfl⟩⟩, rfl, rfl, (hr.alloc (by omega) _).alloc (by rw [e1]; omega) _, one_alloc (one_alloc hg _) _, (fun i hi => by cases hi), by omega⟩
set_option maxRecDepth 100000 in
set_option maxHeartbeats 4000000 in
theorem rdcls_any {w : World} {B r : Nat} (h : RdAt w B r) (hB : B ≤ w.heap.size) : Calls Tryf.prog 15 #[.pointer (some ⟨r, 0, none⟩)] w (RcPost w B r) := by
  have HR0 := Lib.hid (h.alloc hB (.cells #[.int .i64 0, .int .i64 0, .bool false, .slice none 0 0] 57))
  have hrl := h.lt
  have HZ0 := Lib.hid (blk_new w (.cells #[.int .i64 0, .int .i64 0, .bool false, .slice none 0 0] 57))
  have HG0 := Lib.hid (one_alloc (one_refl w (some r)) (.cells #[.int .i64 0, .int .i64 0, .bool false, .slice none 0 0] 57))
  have hs0 : (w.alloc (.cells #[.int .i64 0, .int .i64 0, .bool false, .slice none 0 0] 57)).heap.size = w.heap.size + 1 := by simp
  clear h
  go_enter Tryf.func15, Tryf.ntmps15
  go_wp2_with fail
  refine (next_rd HR0.out).mono ?_
  rintro e w1 ⟨v, hv, rfl, hr1, hg1⟩
  have HR1 := Lib.hid hr1
  have HG1 := Lib.hid (one_trans HG0.out hg1)
  have HZ1 := Lib.hid (blk_grown HZ0.out hg1 (fun e => by injection e with e; omega))
  have hs1 : w.heap.size + 1 ≤ w1.heap.size := by have := hg1.size; omega
  clear hr1 hg1 HG0 HZ0 HR0 hs0
  have z0 : ∀ o, (w1.alloc o).cell? ⟨w.heap.size, 0, none⟩ = some (.int .i64 0) := fun o => blk_cell (blk_alloc HZ1.out o) 0 _ rfl
  have z1 : ∀ o, (w1.alloc o).cell? ⟨w.heap.size, 1, none⟩ = some (.int .i64 0) := fun o => blk_cell (blk_alloc HZ1.out o) 1 _ rfl
  have z2 : ∀ o, (w1.alloc o).cell? ⟨w.heap.size, 2, none⟩ = some (.bool false) := fun o => blk_cell (blk_alloc HZ1.out o) 2 _ rfl
  have z3 : ∀ o, (w1.alloc o).cell? ⟨w.heap.size, 3, none⟩ = some (.slice none 0 0) := fun o => blk_cell (blk_alloc HZ1.out o) 3 _ rfl
  have g0 : ∀ o, (w1.alloc o).frozen? ⟨w.heap.size, 0, none⟩ = false := fun o => blk_free (blk_alloc HZ1.out o) 0
  have g1 : ∀ o, (w1.alloc o).frozen? ⟨w.heap.size, 1, none⟩ = false := fun o => blk_free (blk_alloc HZ1.out o) 1
  have g2 : ∀ o, (w1.alloc o).frozen? ⟨w.heap.size, 2, none⟩ = false := fun o => blk_free (blk_alloc HZ1.out o) 2
  have g3 : ∀ o, (w1.alloc o).frozen? ⟨w.heap.size, 3, none⟩ = false := fun o => blk_free (blk_alloc HZ1.out o) 3
  obtain ⟨m, hm⟩ : ∃ m, v % 4 = m := ⟨_, rfl⟩
  have hmod : Int.tmod (v : Int) 4 = (m : Int) := by rw [Int.tmod_eq_emod_of_nonneg (by omega)]; omega
  obtain ⟨q, hq⟩ : ∃ q, v / 4 = q := ⟨_, rfl⟩
  have hquo : Int.tdiv (v : Int) 4 = (q : Int) := by rw [Int.tdiv_eq_ediv_of_nonneg (by omega)]; omega
  have hm4 : m = 0 ∨ m = 1 ∨ m = 2 ∨ m = 3 := by omega
  have hq63 : q ≤ 63 := by omega
  clear hq hm
  rcases hm4 with rfl | rfl | rfl | rfl
  · obtain ⟨k, hk⟩ : ∃ k, q % 13 = k := ⟨_, rfl⟩
    have hmq : Int.tmod (q : Int) 13 = (k : Int) := by rw [Int.tmod_eq_emod_of_nonneg (by omega)]; omega
    have hk13 : k < 13 := by omega
    have hix := idx13 k hk13
    obtain ⟨z, hz⟩ : ∃ z, lits13.getD k 0 = z := ⟨_, rfl⟩
    have hzm : z ∈ lits13 := by rw [← hz, List.getD_eq_getElem?_getD, List.getElem?_eq_getElem (by simpa [lits13] using hk13)]; exact List.getElem_mem _
    have hzb : 0 ≤ z ∧ z ≤ 255 := by simp only [lits13, List.mem_cons, List.not_mem_nil, or_false] at hzm; omega
    have hz0 := hzb.1
    have hz1 := hzb.2
    have HZM := Lib.hid hzm
    rw [hz] at hix
    clear hk hz hzm hzb
    go_wp2_with fail
    exact bodyPost_ret (rc_results rfl rfl (sets4 (blk_alloc HZ1.out _))) rfl (rc_done (c := .lit z) HZM.out rfl hB HR1.out HG1.out hs1 hrl rfl (fun W => .lit) (by decide))
  · go_wp2_with fail
    exact bodyPost_ret (rc_results rfl rfl (sets4 (blk_alloc HZ1.out _))) rfl (rc_done (c := .dot) trivial rfl hB HR1.out HG1.out hs1 hrl rfl (fun W => .dot) (by decide))
  · obtain ⟨z, hz⟩ : ∃ z, pickZ q = z := ⟨_, rfl⟩
    have hzm := pick_mem q
    rw [hz] at hzm
    have hzb : 0 ≤ z ∧ z ≤ 255 := by simp only [picks, List.mem_cons, List.not_mem_nil, or_false] at hzm; omega
    have hz0 := hzb.1
    have hz1 := hzb.2
    have HZM := Lib.hid hzm
    have HPK : Hid (∀ W, Calls Tryf.prog 22 #[.int .i64 (q : Int)] W fun e w' => e = .returned (.int .u8 z) ∧ W = w') := Lib.hid (fun W => hz ▸ pick_any q (by omega) W)
    clear hz hzm hzb
    go_wp2_with fail
    refine (HPK.out _).mono ?_
    rintro e w' ⟨rfl, rfl⟩
    go_wp2_with fail
    exact bodyPost_ret (rc_results rfl rfl (sets4 (blk_alloc HZ1.out _))) rfl (rc_done (c := .esc z) HZM.out rfl hB HR1.out HG1.out hs1 hrl rfl (fun W => .esc) (by decide))
  · obtain ⟨nl, hn⟩ : ∃ nl, (v / 8) % 4 = nl := ⟨_, rfl⟩
    have hq8 : Int.tmod (Int.tdiv (v : Int) 8) 4 = (nl : Int) := by rw [Int.tdiv_eq_ediv_of_nonneg (by omega), Int.tmod_eq_emod_of_nonneg (by omega)]; omega
    have hq9 : (v : Int) / 8 % 4 = (nl : Int) := by omega
    have hn4 : nl < 4 := by omega
    have hqq : Int.tmod (q : Int) 2 = 0 ∨ Int.tmod (q : Int) 2 = 1 := by rw [Int.tmod_eq_emod_of_nonneg (by omega)]; omega
    obtain ⟨iu, hiu, hu0, hu1, hu2⟩ := info_parts u8_info
    obtain ⟨is, his, is0, is1, is2⟩ := info_parts si_info
    clear hn
    rcases hqq with hqm | hqm
    ·
      go_upto_region 14 with (fail)
      have HS := Lib.hid (rcs_start false hB HR1.out HG1.out HZ1.out hs1 hrl)
      generalize hws : World.alloc (World.alloc w1 _) _ = ws at *
      have hwss := HS.out.gr.size
      clear HR1 HG1 HZ1 hws z0 z1 z2 z3 g0 g1 g2 g3
      go_wp2_with fail
      try rw [hq9]
      go_loopg [8, 10] (nl + 1 - 0) (fun k v8 v10 wr => ∃ (its : List SI) (tx : List Int) (nn m : Nat) (ta : Option Addr) (tc : Nat) (ia : Option Addr) (ic : Nat), k = nl + 1 - m ∧ v8 = .slice ta nn tc ∧ v10 = .int .i64 (m : Int) ∧ m ≤ nl + 1 ∧ Hid (tx = 91 :: ([] : List Int) ++ its.flatMap SI.txt) ∧ Hid (RcS w B r w1.heap.size false its tx nn m wr ta tc ia ic))
      case atStart => exact ⟨[], _, _, 0, _, _, _, _, rfl, rfl, rfl, by omega, Lib.hid (by rfl), HS⟩
      case round =>
        obtain ⟨its, tx, nn, m, ta, tc, ia, ic, rfl, rfl, rfl, hmn, HTX, HSr⟩ := hrel
        have hnl : nn ≤ 2 + 3 * m := by
          have h1 := HSr.out.tl
          have h2 := HTX.out
          have h3 := si_len its
          have h4 := HSr.out.il
          rw [← h1, h2]
          simp only [List.length_append, List.length_cons, List.length_nil]
          omega
        by_cases hlt : m < nl + 1
        · have tm : decide ((m : Int) < 1 + (nl : Int)) = true := decide_eq_true (by omega)
          have tm2 : (m : Int) < 1 + (nl : Int) := by omega
          go_wp2_with fail
          refine (next_rd HSr.out.rd).mono ?_
          rintro e wd ⟨d, hd, rfl, hrd, hgd⟩
          have HSd := Lib.hid (HSr.out.call hgd hrd hrl)
          obtain ⟨d3, hd3⟩ : ∃ x, d / 3 = x := ⟨_, rfl⟩
          have hdq : Int.tdiv (d : Int) 3 = (d3 : Int) := by rw [Int.tdiv_eq_ediv_of_nonneg (by omega)]; omega
          have hdm : Int.tmod (d : Int) 3 = 0 ∨ Int.tmod (d : Int) 3 = 1 ∨ Int.tmod (d : Int) 3 = 2 := by rw [Int.tmod_eq_emod_of_nonneg (by omega)]; omega
          have hd85 : d3 ≤ 85 := by omega
          clear hrd hgd HSr hd3
          rcases hdm with hdm | hdm | hdm
          · obtain ⟨k, hk⟩ : ∃ k, d3 % 10 = k := ⟨_, rfl⟩
            have hmq : Int.tmod (d3 : Int) 10 = (k : Int) := by rw [Int.tmod_eq_emod_of_nonneg (by omega)]; omega
            have hk10 : k < 10 := by omega
            have hix := idx10 k hk10
            obtain ⟨z, hz⟩ : ∃ z, sets10.getD k 0 = z := ⟨_, rfl⟩
            have hzm : z ∈ sets10 := by rw [← hz, List.getD_eq_getElem?_getD, List.getElem?_eq_getElem (by simpa [sets10] using hk10)]; exact List.getElem_mem _
            have hzb : 0 ≤ z ∧ z ≤ 255 := by simp only [sets10, List.mem_cons, List.not_mem_nil, or_false] at hzm; omega
            have hz0 := hzb.1
            have hz1 := hzb.2
            have HZM := Lib.hid hzm
            rw [hz] at hix
            clear hk hz hzm hzb
            go_upto_region 26 with (fail)
            have hwd := HSd.out.gr.size
            have kc : wd.cell? ⟨w1.heap.size, 3, none⟩ = some (.slice ia m ic) := blk_cell HSd.out.cl 3 _ rfl
            have kca : ∀ o, (wd.alloc o).cell? ⟨w1.heap.size, 3, none⟩ = some (.slice ia m ic) := fun o => blk_cell (blk_alloc HSd.out.cl o) 3 _ rfl
            have fc : wd.frozen? ⟨w1.heap.size, 3, none⟩ = false := blk_free HSd.out.cl 3
            trace_state
            go_upto_region 27 with (at_builtin; go_loud (refine wpList_push _ rfl (.tmp 92) (.tmp 96) 55 rfl (w.heap.size + 1) 84 is _ 3 24 Tryf.underlying55 his is0 is1 is2 rfl (by decide) _ _ _ _ rfl (HSd.out.irow.alloc _) ⟨wd.heap.size, 0, none⟩ 1 1 [.int .i64 0, .int .i64 z, .int .i64 0] rfl rfl (news_any (by simp)) (by simp [Value.oneCell']) (by decide) (by unfold maxLen; omega) (by omega) (by simp; omega) ?_; intro g1 c1 w8 hown hgrow hwhere; have HO := Lib.hid hown; have HGw := Lib.hid hgrow; have HWh := Lib.hid hwhere; have kc8 : w8.cell? ⟨w1.heap.size, 3, none⟩ = some (.slice ia m ic) := blk_cell (RcS.kept_cl (HSd.out.alloc hB _) HGw.out) 3 _ rfl; have fc8 : w8.frozen? ⟨w1.heap.size, 3, none⟩ = false := blk_free (RcS.kept_cl (HSd.out.alloc hB _) HGw.out) 3; clear hown hgrow hwhere))
            have HS3 := Lib.hid ((HSd.out.alloc hB _).pushI hB hrl (i := .chr z) HZM.out HO.out HGw.out (HWh.out.imp id (fun h => h)))
            generalize hw3 : World.setCell w8 _ _ = w3 at *
            have hwd3 := HS3.out.gr.size
            clear HSd HO HGw HWh kc fc kca kc8 fc8 hw3
            go_wp2_with (at_builtin; go_loud (refine wpList_push _ rfl (.tmp 99) (.tmp 101) 22 rfl (w.heap.size + 1) 5 iu (.int .u8 0) 1 1 Tryf.underlying22 hiu hu0 hu1 hu2 rfl (by decide) _ _ _ _ rfl (HS3.out.trow.alloc _) ⟨w3.heap.size, 0, none⟩ 1 1 [.int .u8 z] rfl rfl (news_any (by simp)) (by simp [Value.oneCell']) (by decide) (by unfold maxLen; omega) (by omega) (by simp; omega) ?_; intro g1 c1 w8 hown hgrow hwhere; have HO := Lib.hid hown; have HGw := Lib.hid hgrow; clear hown hgrow hwhere))
            have HS4 := Lib.hid ((HS3.out.alloc hB _).pushT hB hrl (news := [z]) rfl HO.out HGw.out)
            go_roundg (nl + 1 - (m + 1))
            case measure => omega
            case rel => exact ⟨_, _, nn + 1, m + 1, _, _, _, _, rfl, rfl, rfl, by omega, Lib.hid (by rw [HTX.out]; simp [SI.txt]), HS4⟩
          · obtain ⟨k, hk⟩ : ∃ k, d3 % 6 = k := ⟨_, rfl⟩
            have hmq : Int.tmod (d3 : Int) 6 = (k : Int) := by rw [Int.tmod_eq_emod_of_nonneg (by omega)]; omega
            have hk6 : k < 6 := by omega
            have hix1 := fun W => (idx12 k hk6 W).1
            have hix2 := fun W => (idx12 k hk6 W).2
            obtain ⟨z, hz⟩ : ∃ z, rngs6.getD k (0, 0) = z := ⟨_, rfl⟩
            have hzm : z ∈ rngs6 := by rw [← hz, List.getD_eq_getElem?_getD, List.getElem?_eq_getElem (by simpa [rngs6] using hk6)]; exact List.getElem_mem _
            obtain ⟨x, y⟩ := z
            have hzb : 0 ≤ x ∧ x ≤ 255 ∧ 0 ≤ y ∧ y ≤ 255 := by simp only [rngs6, List.mem_cons, Prod.mk.injEq, List.not_mem_nil, or_false] at hzm; omega
            have hz0 := hzb.1
            have hz1 := hzb.2.1
            have hz2 := hzb.2.2.1
            have hz3 := hzb.2.2.2
            have HZM := Lib.hid hzm
            rw [hz] at hix1 hix2
            simp only at hix1 hix2
            clear hk hz hzm hzb
            go_upto_region 32 with (fail)
            have hwd := HSd.out.gr.size
            have kc : wd.cell? ⟨w1.heap.size, 3, none⟩ = some (.slice ia m ic) := blk_cell HSd.out.cl 3 _ rfl
            have kca : ∀ o, (wd.alloc o).cell? ⟨w1.heap.size, 3, none⟩ = some (.slice ia m ic) := fun o => blk_cell (blk_alloc HSd.out.cl o) 3 _ rfl
            have fc : wd.frozen? ⟨w1.heap.size, 3, none⟩ = false := blk_free HSd.out.cl 3
            trace_state
            go_upto_region 33 with (at_builtin; go_loud (refine wpList_push _ rfl (.tmp 116) (.tmp 122) 55 rfl (w.heap.size + 1) 84 is _ 3 24 Tryf.underlying55 his is0 is1 is2 rfl (by decide) _ _ _ _ rfl (HSd.out.irow.alloc _) ⟨wd.heap.size, 0, none⟩ 1 1 [.int .i64 1, .int .i64 x, .int .i64 y] rfl rfl (news_any (by simp)) (by simp [Value.oneCell']) (by decide) (by unfold maxLen; omega) (by omega) (by simp; omega) ?_; intro g1 c1 w8 hown hgrow hwhere; have HO := Lib.hid hown; have HGw := Lib.hid hgrow; have HWh := Lib.hid hwhere; have kc8 : w8.cell? ⟨w1.heap.size, 3, none⟩ = some (.slice ia m ic) := blk_cell (RcS.kept_cl (HSd.out.alloc hB _) HGw.out) 3 _ rfl; have fc8 : w8.frozen? ⟨w1.heap.size, 3, none⟩ = false := blk_free (RcS.kept_cl (HSd.out.alloc hB _) HGw.out) 3; clear hown hgrow hwhere))
            have HS3 := Lib.hid ((HSd.out.alloc hB _).pushI hB hrl (i := .rng x y) HZM.out HO.out HGw.out (HWh.out.imp id (fun h => h)))
            generalize hw3 : World.setCell w8 _ _ = w3 at *
            have hwd3 := HS3.out.gr.size
            clear HSd HO HGw HWh kc fc kca kc8 fc8 hw3
            go_wp2_with (at_builtin; go_loud (refine wpList_push _ rfl (.tmp 125) (.tmp 128) 22 rfl (w.heap.size + 1) 5 iu (.int .u8 0) 1 1 Tryf.underlying22 hiu hu0 hu1 hu2 rfl (by decide) _ _ _ _ rfl (HS3.out.trow.alloc _) ⟨w3.heap.size, 0, none⟩ 3 3 [.int .u8 x, .int .u8 45, .int .u8 y] rfl rfl (news_any (by simp)) (by simp [Value.oneCell']) (by decide) (by unfold maxLen; omega) (by omega) (by simp; omega) ?_; intro g1 c1 w8 hown hgrow hwhere; have HO := Lib.hid hown; have HGw := Lib.hid hgrow; clear hown hgrow hwhere))
            have HS4 := Lib.hid ((HS3.out.alloc hB _).pushT hB hrl (news := [x, 45, y]) rfl HO.out HGw.out)
            go_roundg (nl + 1 - (m + 1))
            case measure => omega
            case rel => exact ⟨_, _, nn + 3, m + 1, _, _, _, _, rfl, rfl, rfl, by omega, Lib.hid (by rw [HTX.out]; simp [SI.txt]), HS4⟩
          · obtain ⟨z, hz⟩ : ∃ z, pickZ d3 = z := ⟨_, rfl⟩
            have hzm := pick_mem d3
            rw [hz] at hzm
            have hzb : 0 ≤ z ∧ z ≤ 255 := by simp only [picks, List.mem_cons, List.not_mem_nil, or_false] at hzm; omega
            have hz0 := hzb.1
            have hz1 := hzb.2
            have HZM := Lib.hid hzm
            have HPK : Hid (∀ W, Calls Tryf.prog 22 #[.int .i64 (d3 : Int)] W fun e w' => e = .returned (.int .u8 z) ∧ W = w') := Lib.hid (fun W => hz ▸ pick_any d3 (by omega) W)
            clear hz hzm hzb
            go_upto_region 22 with (go_at_call 22; refine (HPK.out _).mono ?_; rintro e w' ⟨rfl, rfl⟩)
            have hwd := HSd.out.gr.size
            have kc : wd.cell? ⟨w1.heap.size, 3, none⟩ = some (.slice ia m ic) := blk_cell HSd.out.cl 3 _ rfl
            have kca : ∀ o, (wd.alloc o).cell? ⟨w1.heap.size, 3, none⟩ = some (.slice ia m ic) := fun o => blk_cell (blk_alloc HSd.out.cl o) 3 _ rfl
            have fc : wd.frozen? ⟨w1.heap.size, 3, none⟩ = false := blk_free HSd.out.cl 3
            trace_state
            go_upto_region 23 with (at_builtin; go_loud (refine wpList_push _ rfl (.tmp 74) (.tmp 78) 55 rfl (w.heap.size + 1) 84 is _ 3 24 Tryf.underlying55 his is0 is1 is2 rfl (by decide) _ _ _ _ rfl (HSd.out.irow.alloc _) ⟨wd.heap.size, 0, none⟩ 1 1 [.int .i64 2, .int .i64 z, .int .i64 0] rfl rfl (news_any (by simp)) (by simp [Value.oneCell']) (by decide) (by unfold maxLen; omega) (by omega) (by simp; omega) ?_; intro g1 c1 w8 hown hgrow hwhere; have HO := Lib.hid hown; have HGw := Lib.hid hgrow; have HWh := Lib.hid hwhere; have kc8 : w8.cell? ⟨w1.heap.size, 3, none⟩ = some (.slice ia m ic) := blk_cell (RcS.kept_cl (HSd.out.alloc hB _) HGw.out) 3 _ rfl; have fc8 : w8.frozen? ⟨w1.heap.size, 3, none⟩ = false := blk_free (RcS.kept_cl (HSd.out.alloc hB _) HGw.out) 3; clear hown hgrow hwhere))
            have HS3 := Lib.hid ((HSd.out.alloc hB _).pushI hB hrl (i := .esc z) HZM.out HO.out HGw.out (HWh.out.imp id (fun h => h)))
            generalize hw3 : World.setCell w8 _ _ = w3 at *
            have hwd3 := HS3.out.gr.size
            clear HSd HO HGw HWh kc fc kca kc8 fc8 hw3
            go_wp2_with (at_builtin; go_loud (refine wpList_push _ rfl (.tmp 81) (.tmp 83) 22 rfl (w.heap.size + 1) 5 iu (.int .u8 0) 1 1 Tryf.underlying22 hiu hu0 hu1 hu2 rfl (by decide) _ _ _ _ rfl (HS3.out.trow.alloc _) ⟨w3.heap.size, 0, none⟩ 2 2 [.int .u8 37, .int .u8 z] rfl rfl (news_any (by simp)) (by simp [Value.oneCell']) (by decide) (by unfold maxLen; omega) (by omega) (by simp; omega) ?_; intro g1 c1 w8 hown hgrow hwhere; have HO := Lib.hid hown; have HGw := Lib.hid hgrow; clear hown hgrow hwhere))
            have HS4 := Lib.hid ((HS3.out.alloc hB _).pushT hB hrl (news := [37, z]) rfl HO.out HGw.out)
            go_roundg (nl + 1 - (m + 1))
            case measure => omega
            case rel => exact ⟨_, _, nn + 2, m + 1, _, _, _, _, rfl, rfl, rfl, by omega, Lib.hid (by rw [HTX.out]; simp [SI.txt]), HS4⟩
        · obtain rfl : m = nl + 1 := by omega
          have tm : decide (((nl + 1 : Nat) : Int) < 1 + (nl : Int)) = false := decide_eq_false (by omega)
          have tm3 : decide ((nl : Int) + 1 < 1 + (nl : Int)) = false := decide_eq_false (by omega)
          have hwr := HSr.out.gr.size
          go_upto_region 35 with (at_builtin; go_loud (refine wpList_push _ rfl (.tmp 130) (.tmp 131) 22 rfl (w.heap.size + 1) 5 iu (.int .u8 0) 1 1 Tryf.underlying22 hiu hu0 hu1 hu2 rfl (by decide) _ _ _ _ rfl (HSr.out.trow.alloc _) ⟨wr.heap.size, 0, none⟩ 1 1 [.int .u8 93] rfl rfl (news_any (by simp)) (by simp [Value.oneCell']) (by decide) (by unfold maxLen; omega) (by omega) (by simp; omega) ?_; intro g1 c1 w8 hown hgrow hwhere; have HO := Lib.hid hown; have HGw := Lib.hid hgrow; clear hown hgrow hwhere))
          have HS5 := Lib.hid ((HSr.out.alloc hB _).pushT hB hrl (news := [93]) rfl HO.out HGw.out)
          have kl0 := blk_cell HS5.out.cl 0 _ rfl
          have kl1 := blk_cell HS5.out.cl 1 _ rfl
          have kl2 := blk_cell HS5.out.cl 2 _ rfl
          have kl3 := blk_cell HS5.out.cl 3 _ rfl
          have kr0 := blk_cell HS5.out.res 0 _ rfl
          have kr1 := blk_cell HS5.out.res 1 _ rfl
          have kr2 := blk_cell HS5.out.res 2 _ rfl
          have kr3 := blk_cell HS5.out.res 3 _ rfl
          have kf0 := blk_free HS5.out.res 0
          have kf1 := blk_free HS5.out.res 1
          have kf2 := blk_free HS5.out.res 2
          have kf3 := blk_free HS5.out.res 3
          clear HO HGw
          go_wp2_with fail
          exact bodyPost_ret (rc_results rfl rfl (sets4 HS5.out.res)) rfl (HS5.out.done hB hrl (by have := HS5.out.il; intro h; rw [h] at this; simp at this) (by have := HS5.out.il; omega) (by rw [HTX.out]; simp [CK.txt]))
    ·
      go_upto_region 14 with (fail)
      have HS := Lib.hid (rcs_start true hB HR1.out HG1.out HZ1.out hs1 hrl)
      generalize hws : World.alloc (World.alloc w1 _) _ = ws at *
      have hwss := HS.out.gr.size
      clear HR1 HG1 HZ1 hws z0 z1 z2 z3 g0 g1 g2 g3
      go_upto_region 15 with (at_builtin; go_loud (refine wpList_push _ rfl (.tmp 54) (.tmp 55) 22 rfl (w.heap.size + 1) 5 iu (.int .u8 0) 1 1 Tryf.underlying22 hiu hu0 hu1 hu2 rfl (by decide) _ _ _ _ rfl (HS.out.trow.alloc _) ⟨ws.heap.size, 0, none⟩ 1 1 [.int .u8 94] rfl rfl (news_any (by simp)) (by simp [Value.oneCell']) (by decide) (by unfold maxLen; omega) (by omega) (by simp; omega) ?_; intro g1 c1 w8 hown hgrow hwhere; have HO := Lib.hid hown; have HGw := Lib.hid hgrow; clear hown hgrow hwhere))
      have HS := Lib.hid ((HS.out.alloc hB _).pushT hB hrl (news := [94]) rfl HO.out HGw.out)
      clear HO HGw
      go_wp2_with fail
      try rw [hq9]
      go_loopg [8, 10] (nl + 1 - 0) (fun k v8 v10 wr => ∃ (its : List SI) (tx : List Int) (nn m : Nat) (ta : Option Addr) (tc : Nat) (ia : Option Addr) (ic : Nat), k = nl + 1 - m ∧ v8 = .slice ta nn tc ∧ v10 = .int .i64 (m : Int) ∧ m ≤ nl + 1 ∧ Hid (tx = 91 :: [94] ++ its.flatMap SI.txt) ∧ Hid (RcS w B r w1.heap.size true its tx nn m wr ta tc ia ic))
      case atStart => exact ⟨[], _, _, 0, _, _, _, _, rfl, rfl, rfl, by omega, Lib.hid (by rfl), HS⟩
      case round =>
        obtain ⟨its, tx, nn, m, ta, tc, ia, ic, rfl, rfl, rfl, hmn, HTX, HSr⟩ := hrel
        have hnl : nn ≤ 2 + 3 * m := by
          have h1 := HSr.out.tl
          have h2 := HTX.out
          have h3 := si_len its
          have h4 := HSr.out.il
          rw [← h1, h2]
          simp only [List.length_append, List.length_cons, List.length_nil]
          omega
        by_cases hlt : m < nl + 1
        · have tm : decide ((m : Int) < 1 + (nl : Int)) = true := decide_eq_true (by omega)
          have tm2 : (m : Int) < 1 + (nl : Int) := by omega
          go_wp2_with fail
          refine (next_rd HSr.out.rd).mono ?_
          rintro e wd ⟨d, hd, rfl, hrd, hgd⟩
          have HSd := Lib.hid (HSr.out.call hgd hrd hrl)
          obtain ⟨d3, hd3⟩ : ∃ x, d / 3 = x := ⟨_, rfl⟩
          have hdq : Int.tdiv (d : Int) 3 = (d3 : Int) := by rw [Int.tdiv_eq_ediv_of_nonneg (by omega)]; omega
          have hdm : Int.tmod (d : Int) 3 = 0 ∨ Int.tmod (d : Int) 3 = 1 ∨ Int.tmod (d : Int) 3 = 2 := by rw [Int.tmod_eq_emod_of_nonneg (by omega)]; omega
          have hd85 : d3 ≤ 85 := by omega
          clear hrd hgd HSr hd3
          rcases hdm with hdm | hdm | hdm
          · obtain ⟨k, hk⟩ : ∃ k, d3 % 10 = k := ⟨_, rfl⟩
            have hmq : Int.tmod (d3 : Int) 10 = (k : Int) := by rw [Int.tmod_eq_emod_of_nonneg (by omega)]; omega
            have hk10 : k < 10 := by omega
            have hix := idx10 k hk10
            obtain ⟨z, hz⟩ : ∃ z, sets10.getD k 0 = z := ⟨_, rfl⟩
            have hzm : z ∈ sets10 := by rw [← hz, List.getD_eq_getElem?_getD, List.getElem?_eq_getElem (by simpa [sets10] using hk10)]; exact List.getElem_mem _
            have hzb : 0 ≤ z ∧ z ≤ 255 := by simp only [sets10, List.mem_cons, List.not_mem_nil, or_false] at hzm; omega
            have hz0 := hzb.1
            have hz1 := hzb.2
            have HZM := Lib.hid hzm
            rw [hz] at hix
            clear hk hz hzm hzb
            go_upto_region 26 with (fail)
            have hwd := HSd.out.gr.size
            have kc : wd.cell? ⟨w1.heap.size, 3, none⟩ = some (.slice ia m ic) := blk_cell HSd.out.cl 3 _ rfl
            have kca : ∀ o, (wd.alloc o).cell? ⟨w1.heap.size, 3, none⟩ = some (.slice ia m ic) := fun o => blk_cell (blk_alloc HSd.out.cl o) 3 _ rfl
            have fc : wd.frozen? ⟨w1.heap.size, 3, none⟩ = false := blk_free HSd.out.cl 3
            trace_state
            go_upto_region 27 with (at_builtin; go_loud (refine wpList_push _ rfl (.tmp 92) (.tmp 96) 55 rfl (w.heap.size + 1) 84 is _ 3 24 Tryf.underlying55 his is0 is1 is2 rfl (by decide) _ _ _ _ rfl (HSd.out.irow.alloc _) ⟨wd.heap.size, 0, none⟩ 1 1 [.int .i64 0, .int .i64 z, .int .i64 0] rfl rfl (news_any (by simp)) (by simp [Value.oneCell']) (by decide) (by unfold maxLen; omega) (by omega) (by simp; omega) ?_; intro g1 c1 w8 hown hgrow hwhere; have HO := Lib.hid hown; have HGw := Lib.hid hgrow; have HWh := Lib.hid hwhere; have kc8 : w8.cell? ⟨w1.heap.size, 3, none⟩ = some (.slice ia m ic) := blk_cell (RcS.kept_cl (HSd.out.alloc hB _) HGw.out) 3 _ rfl; have fc8 : w8.frozen? ⟨w1.heap.size, 3, none⟩ = false := blk_free (RcS.kept_cl (HSd.out.alloc hB _) HGw.out) 3; clear hown hgrow hwhere))
            have HS3 := Lib.hid ((HSd.out.alloc hB _).pushI hB hrl (i := .chr z) HZM.out HO.out HGw.out (HWh.out.imp id (fun h => h)))
            generalize hw3 : World.setCell w8 _ _ = w3 at *
            have hwd3 := HS3.out.gr.size
            clear HSd HO HGw HWh kc fc kca kc8 fc8 hw3
            go_wp2_with (at_builtin; go_loud (refine wpList_push _ rfl (.tmp 99) (.tmp 101) 22 rfl (w.heap.size + 1) 5 iu (.int .u8 0) 1 1 Tryf.underlying22 hiu hu0 hu1 hu2 rfl (by decide) _ _ _ _ rfl (HS3.out.trow.alloc _) ⟨w3.heap.size, 0, none⟩ 1 1 [.int .u8 z] rfl rfl (news_any (by simp)) (by simp [Value.oneCell']) (by decide) (by unfold maxLen; omega) (by omega) (by simp; omega) ?_; intro g1 c1 w8 hown hgrow hwhere; have HO := Lib.hid hown; have HGw := Lib.hid hgrow; clear hown hgrow hwhere))
            have HS4 := Lib.hid ((HS3.out.alloc hB _).pushT hB hrl (news := [z]) rfl HO.out HGw.out)
            go_roundg (nl + 1 - (m + 1))
            case measure => omega
            case rel => exact ⟨_, _, nn + 1, m + 1, _, _, _, _, rfl, rfl, rfl, by omega, Lib.hid (by rw [HTX.out]; simp [SI.txt]), HS4⟩
          · obtain ⟨k, hk⟩ : ∃ k, d3 % 6 = k := ⟨_, rfl⟩
            have hmq : Int.tmod (d3 : Int) 6 = (k : Int) := by rw [Int.tmod_eq_emod_of_nonneg (by omega)]; omega
            have hk6 : k < 6 := by omega
            have hix1 := fun W => (idx12 k hk6 W).1
            have hix2 := fun W => (idx12 k hk6 W).2
            obtain ⟨z, hz⟩ : ∃ z, rngs6.getD k (0, 0) = z := ⟨_, rfl⟩
            have hzm : z ∈ rngs6 := by rw [← hz, List.getD_eq_getElem?_getD, List.getElem?_eq_getElem (by simpa [rngs6] using hk6)]; exact List.getElem_mem _
            obtain ⟨x, y⟩ := z
            have hzb : 0 ≤ x ∧ x ≤ 255 ∧ 0 ≤ y ∧ y ≤ 255 := by simp only [rngs6, List.mem_cons, Prod.mk.injEq, List.not_mem_nil, or_false] at hzm; omega
            have hz0 := hzb.1
            have hz1 := hzb.2.1
            have hz2 := hzb.2.2.1
            have hz3 := hzb.2.2.2
            have HZM := Lib.hid hzm
            rw [hz] at hix1 hix2
            simp only at hix1 hix2
            clear hk hz hzm hzb
            go_upto_region 32 with (fail)
            have hwd := HSd.out.gr.size
            have kc : wd.cell? ⟨w1.heap.size, 3, none⟩ = some (.slice ia m ic) := blk_cell HSd.out.cl 3 _ rfl
            have kca : ∀ o, (wd.alloc o).cell? ⟨w1.heap.size, 3, none⟩ = some (.slice ia m ic) := fun o => blk_cell (blk_alloc HSd.out.cl o) 3 _ rfl
            have fc : wd.frozen? ⟨w1.heap.size, 3, none⟩ = false := blk_free HSd.out.cl 3
            trace_state
            go_upto_region 33 with (at_builtin; go_loud (refine wpList_push _ rfl (.tmp 116) (.tmp 122) 55 rfl (w.heap.size + 1) 84 is _ 3 24 Tryf.underlying55 his is0 is1 is2 rfl (by decide) _ _ _ _ rfl (HSd.out.irow.alloc _) ⟨wd.heap.size, 0, none⟩ 1 1 [.int .i64 1, .int .i64 x, .int .i64 y] rfl rfl (news_any (by simp)) (by simp [Value.oneCell']) (by decide) (by unfold maxLen; omega) (by omega) (by simp; omega) ?_; intro g1 c1 w8 hown hgrow hwhere; have HO := Lib.hid hown; have HGw := Lib.hid hgrow; have HWh := Lib.hid hwhere; have kc8 : w8.cell? ⟨w1.heap.size, 3, none⟩ = some (.slice ia m ic) := blk_cell (RcS.kept_cl (HSd.out.alloc hB _) HGw.out) 3 _ rfl; have fc8 : w8.frozen? ⟨w1.heap.size, 3, none⟩ = false := blk_free (RcS.kept_cl (HSd.out.alloc hB _) HGw.out) 3; clear hown hgrow hwhere))
            have HS3 := Lib.hid ((HSd.out.alloc hB _).pushI hB hrl (i := .rng x y) HZM.out HO.out HGw.out (HWh.out.imp id (fun h => h)))
            generalize hw3 : World.setCell w8 _ _ = w3 at *
            have hwd3 := HS3.out.gr.size
            clear HSd HO HGw HWh kc fc kca kc8 fc8 hw3
            go_wp2_with (at_builtin; go_loud (refine wpList_push _ rfl (.tmp 125) (.tmp 128) 22 rfl (w.heap.size + 1) 5 iu (.int .u8 0) 1 1 Tryf.underlying22 hiu hu0 hu1 hu2 rfl (by decide) _ _ _ _ rfl (HS3.out.trow.alloc _) ⟨w3.heap.size, 0, none⟩ 3 3 [.int .u8 x, .int .u8 45, .int .u8 y] rfl rfl (news_any (by simp)) (by simp [Value.oneCell']) (by decide) (by unfold maxLen; omega) (by omega) (by simp; omega) ?_; intro g1 c1 w8 hown hgrow hwhere; have HO := Lib.hid hown; have HGw := Lib.hid hgrow; clear hown hgrow hwhere))
            have HS4 := Lib.hid ((HS3.out.alloc hB _).pushT hB hrl (news := [x, 45, y]) rfl HO.out HGw.out)
            go_roundg (nl + 1 - (m + 1))
            case measure => omega
            case rel => exact ⟨_, _, nn + 3, m + 1, _, _, _, _, rfl, rfl, rfl, by omega, Lib.hid (by rw [HTX.out]; simp [SI.txt]), HS4⟩
          · obtain ⟨z, hz⟩ : ∃ z, pickZ d3 = z := ⟨_, rfl⟩
            have hzm := pick_mem d3
            rw [hz] at hzm
            have hzb : 0 ≤ z ∧ z ≤ 255 := by simp only [picks, List.mem_cons, List.not_mem_nil, or_false] at hzm; omega
            have hz0 := hzb.1
            have hz1 := hzb.2
            have HZM := Lib.hid hzm
            have HPK : Hid (∀ W, Calls Tryf.prog 22 #[.int .i64 (d3 : Int)] W fun e w' => e = .returned (.int .u8 z) ∧ W = w') := Lib.hid (fun W => hz ▸ pick_any d3 (by omega) W)
            clear hz hzm hzb
            go_upto_region 22 with (go_at_call 22; refine (HPK.out _).mono ?_; rintro e w' ⟨rfl, rfl⟩)
            have hwd := HSd.out.gr.size
            have kc : wd.cell? ⟨w1.heap.size, 3, none⟩ = some (.slice ia m ic) := blk_cell HSd.out.cl 3 _ rfl
            have kca : ∀ o, (wd.alloc o).cell? ⟨w1.heap.size, 3, none⟩ = some (.slice ia m ic) := fun o => blk_cell (blk_alloc HSd.out.cl o) 3 _ rfl
            have fc : wd.frozen? ⟨w1.heap.size, 3, none⟩ = false := blk_free HSd.out.cl 3
            trace_state
            go_upto_region 23 with (at_builtin; go_loud (refine wpList_push _ rfl (.tmp 74) (.tmp 78) 55 rfl (w.heap.size + 1) 84 is _ 3 24 Tryf.underlying55 his is0 is1 is2 rfl (by decide) _ _ _ _ rfl (HSd.out.irow.alloc _) ⟨wd.heap.size, 0, none⟩ 1 1 [.int .i64 2, .int .i64 z, .int .i64 0] rfl rfl (news_any (by simp)) (by simp [Value.oneCell']) (by decide) (by unfold maxLen; omega) (by omega) (by simp; omega) ?_; intro g1 c1 w8 hown hgrow hwhere; have HO := Lib.hid hown; have HGw := Lib.hid hgrow; have HWh := Lib.hid hwhere; have kc8 : w8.cell? ⟨w1.heap.size, 3, none⟩ = some (.slice ia m ic) := blk_cell (RcS.kept_cl (HSd.out.alloc hB _) HGw.out) 3 _ rfl; have fc8 : w8.frozen? ⟨w1.heap.size, 3, none⟩ = false := blk_free (RcS.kept_cl (HSd.out.alloc hB _) HGw.out) 3; clear hown hgrow hwhere))
            have HS3 := Lib.hid ((HSd.out.alloc hB _).pushI hB hrl (i := .esc z) HZM.out HO.out HGw.out (HWh.out.imp id (fun h => h)))
            generalize hw3 : World.setCell w8 _ _ = w3 at *
            have hwd3 := HS3.out.gr.size
            clear HSd HO HGw HWh kc fc kca kc8 fc8 hw3
            go_wp2_with (at_builtin; go_loud (refine wpList_push _ rfl (.tmp 81) (.tmp 83) 22 rfl (w.heap.size + 1) 5 iu (.int .u8 0) 1 1 Tryf.underlying22 hiu hu0 hu1 hu2 rfl (by decide) _ _ _ _ rfl (HS3.out.trow.alloc _) ⟨w3.heap.size, 0, none⟩ 2 2 [.int .u8 37, .int .u8 z] rfl rfl (news_any (by simp)) (by simp [Value.oneCell']) (by decide) (by unfold maxLen; omega) (by omega) (by simp; omega) ?_; intro g1 c1 w8 hown hgrow hwhere; have HO := Lib.hid hown; have HGw := Lib.hid hgrow; clear hown hgrow hwhere))
            have HS4 := Lib.hid ((HS3.out.alloc hB _).pushT hB hrl (news := [37, z]) rfl HO.out HGw.out)
            go_roundg (nl + 1 - (m + 1))
            case measure => omega
            case rel => exact ⟨_, _, nn + 2, m + 1, _, _, _, _, rfl, rfl, rfl, by omega, Lib.hid (by rw [HTX.out]; simp [SI.txt]), HS4⟩
        · obtain rfl : m = nl + 1 := by omega
          have tm : decide (((nl + 1 : Nat) : Int) < 1 + (nl : Int)) = false := decide_eq_false (by omega)
          have tm3 : decide ((nl : Int) + 1 < 1 + (nl : Int)) = false := decide_eq_false (by omega)
          have hwr := HSr.out.gr.size
          go_upto_region 35 with (at_builtin; go_loud (refine wpList_push _ rfl (.tmp 130) (.tmp 131) 22 rfl (w.heap.size + 1) 5 iu (.int .u8 0) 1 1 Tryf.underlying22 hiu hu0 hu1 hu2 rfl (by decide) _ _ _ _ rfl (HSr.out.trow.alloc _) ⟨wr.heap.size, 0, none⟩ 1 1 [.int .u8 93] rfl rfl (news_any (by simp)) (by simp [Value.oneCell']) (by decide) (by unfold maxLen; omega) (by omega) (by simp; omega) ?_; intro g1 c1 w8 hown hgrow hwhere; have HO := Lib.hid hown; have HGw := Lib.hid hgrow; clear hown hgrow hwhere))
          have HS5 := Lib.hid ((HSr.out.alloc hB _).pushT hB hrl (news := [93]) rfl HO.out HGw.out)
          have kl0 := blk_cell HS5.out.cl 0 _ rfl
          have kl1 := blk_cell HS5.out.cl 1 _ rfl
          have kl2 := blk_cell HS5.out.cl 2 _ rfl
          have kl3 := blk_cell HS5.out.cl 3 _ rfl
          have kr0 := blk_cell HS5.out.res 0 _ rfl
          have kr1 := blk_cell HS5.out.res 1 _ rfl
          have kr2 := blk_cell HS5.out.res 2 _ rfl
          have kr3 := blk_cell HS5.out.res 3 _ rfl
          have kf0 := blk_free HS5.out.res 0
          have kf1 := blk_free HS5.out.res 1
          have kf2 := blk_free HS5.out.res 2
          have kf3 := blk_free HS5.out.res 3
          clear HO HGw
          go_wp2_with fail
          exact bodyPost_ret (rc_results rfl rfl (sets4 HS5.out.res)) rfl (HS5.out.done hB hrl (by have := HS5.out.il; intro h; rw [h] at this; simp at this) (by have := HS5.out.il; omega) (by rw [HTX.out]; simp [CK.txt]))
end Go.Proofs.YtcfhhcjcnafcjaaFmt
