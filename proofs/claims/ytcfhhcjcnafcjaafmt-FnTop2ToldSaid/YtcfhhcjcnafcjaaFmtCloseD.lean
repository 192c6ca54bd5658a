/-
  Definitions for the contract of the decoder's closing of a capture. Conditions as each states.
-/
import Derived.Test.YtcfhhcjcnafcjaaFmtBump
import Derived.Deep.RegionLaw
import Derived.Deep.AppendLies
import Derived.Deep.CutRange
import Derived.Deep.DeepCutAuto
namespace Go.Proofs.YtcfhhcjcnafcjaaFmt
open Go.RowKit
set_option linter.unusedVariables false
set_option linter.unusedSimpArgs false

theorem tok_info : (Tryf.prog.info? 59).map (fun i => (i.zero, i.size, i.bytes)) = some (some (.agg #[.int .i64 0, .int .i64 0, .int .i64 0, .bool false, .slice none 0 0, .int .u8 0, .int .i64 0, .int .i64 0]), 8, 80) := by kernel_rfl
theorem bool_info : (Tryf.prog.info? 4).map (fun i => (i.zero, i.size, i.bytes)) = some (some (.bool false), 1, 1) := by kernel_rfl
theorem int_info : (Tryf.prog.info? 3).map (fun i => (i.zero, i.size, i.bytes)) = some (some (.int .i64 0), 1, 8) := by kernel_rfl
theorem news_dr {w : World} {cs : Array Value} {T : TypeId} : ∀ (j : Nat) (u : Value), cs.toList[j]? = some u → ((w.alloc (.cells cs T)).drew).cell? ((⟨w.heap.size, 0, none⟩ : Addr).add j) = some u := by
  intro j u hj
  rw [addr_add, Nat.zero_add]
  exact blk_cell (blk_drew (blk_new _ _)) j _ (by simpa using hj)
section
variable {w0 w w' : World} {B r p d nc : Nat} {an tl : Bool} {R : Fin 6 → Rw} {ts : List Tk}
theorem DecS.own0 (h : DecS w0 w B r p d an tl nc R ts) : w.ownsRow B 5 1 (.slice (R 0).ao (R 0).n (R 0).cap) (R 0).n (R 0).xs := h.own 0
theorem DecS.own1 (h : DecS w0 w B r p d an tl nc R ts) : w.ownsRow B 59 8 (.slice (R 1).ao (R 1).n (R 1).cap) (R 1).n (R 1).xs := h.own 1
theorem DecS.own2 (h : DecS w0 w B r p d an tl nc R ts) : w.ownsRow B 4 1 (.slice (R 2).ao (R 2).n (R 2).cap) (R 2).n (R 2).xs := h.own 2
theorem DecS.own3 (h : DecS w0 w B r p d an tl nc R ts) : w.ownsRow B 3 1 (.slice (R 3).ao (R 3).n (R 3).cap) (R 3).n (R 3).xs := h.own 3
theorem DecS.own4 (h : DecS w0 w B r p d an tl nc R ts) : w.ownsRow B 3 1 (.slice (R 4).ao (R 4).n (R 4).cap) (R 4).n (R 4).xs := h.own 4
theorem DecS.own5 (h : DecS w0 w B r p d an tl nc R ts) : w.ownsRow B 3 1 (.slice (R 5).ao (R 5).n (R 5).cap) (R 5).n (R 5).xs := h.own 5
theorem DecS.pGrown (h : DecS w0 w B r p d an tl nc R ts) {i : Fin 6} (hg : w.grownBy w' (blkOf (R i).ao)) : w'.heap[p]? = some (.cells #[.slice (R 0).ao (R 0).n (R 0).cap, .slice (R 1).ao (R 1).n (R 1).cap, .bool an, .bool tl, .int .i64 (nc : Int), .slice (R 2).ao (R 2).n (R 2).cap] 35 (0, 0)) :=
  blk_grown h.pblk hg (fun e => by
    obtain ⟨c, hc⟩ := own_type (h.own i) p e.symm
    exact type_ne hc h.pblk (rTy_pat i).1 rfl)
theorem DecS.dGrown (h : DecS w0 w B r p d an tl nc R ts) {i : Fin 6} (hg : w.grownBy w' (blkOf (R i).ao)) : w'.heap[d]? = some (.cells #[.pointer (some ⟨p, 0, none⟩), .slice (R 3).ao (R 3).n (R 3).cap, .slice (R 4).ao (R 4).n (R 4).cap, .slice (R 5).ao (R 5).n (R 5).cap] 53 (0, 0)) :=
  blk_grown h.dblk hg (fun e => by
    obtain ⟨c, hc⟩ := own_type (h.own i) d e.symm
    exact type_ne hc h.dblk (rTy_pat i).2.1 rfl)
theorem cap_le {T : TypeId} {sz n cap : Nat} {ao : Option Addr} {xs : List Value} (h : w.ownsRow B T sz (.slice ao n cap) n xs) : n ≤ cap := by
  rcases h.2 with ⟨_, h2⟩ | ⟨g, c, cur, h1, hb, hg, hn, _⟩
  · omega
  · simp only [Value.slice.injEq] at h1; omega
theorem DecS.tn (h : DecS w0 w B r p d an tl nc R ts) : (R 1).n = ts.length := by
  have h1 := h.own1.1
  have h2 := h.toks.length
  omega
theorem DecS.push0 (h : DecS w0 w B r p d an tl nc R ts) {g1 c1 n1 : Nat} {xs1 : List Value} (hown : w'.ownsRow B 5 1 (.slice (some ⟨g1, 0, none⟩) n1 c1) n1 xs1) (hg : w.grownBy w' (blkOf (R 0).ao)) (hat : blkOf (R 0).ao = some g1 ∨ w.heap.size ≤ g1) :
    DecS w0 (w'.setCell ⟨p, 0, none⟩ (.slice (some ⟨g1, 0, none⟩) n1 c1)) B r p d an tl nc (upd R 0 ⟨some ⟨g1, 0, none⟩, c1, n1, xs1⟩) ts := h.push 0 hown hg hat h.toks
theorem DecS.push1 (h : DecS w0 w B r p d an tl nc R ts) {g1 c1 n1 : Nat} {xs1 : List Value} {ts' : List Tk} (hown : w'.ownsRow B 59 8 (.slice (some ⟨g1, 0, none⟩) n1 c1) n1 xs1) (hg : w.grownBy w' (blkOf (R 1).ao)) (hat : blkOf (R 1).ao = some g1 ∨ w.heap.size ≤ g1) (htk : TksAt w B ts' xs1) :
    DecS w0 (w'.setCell ⟨p, 1, none⟩ (.slice (some ⟨g1, 0, none⟩) n1 c1)) B r p d an tl nc (upd R 1 ⟨some ⟨g1, 0, none⟩, c1, n1, xs1⟩) ts' := h.push 1 hown hg hat (by rw [upd_same]; exact htk)
theorem DecS.push2 (h : DecS w0 w B r p d an tl nc R ts) {g1 c1 n1 : Nat} {xs1 : List Value} (hown : w'.ownsRow B 4 1 (.slice (some ⟨g1, 0, none⟩) n1 c1) n1 xs1) (hg : w.grownBy w' (blkOf (R 2).ao)) (hat : blkOf (R 2).ao = some g1 ∨ w.heap.size ≤ g1) :
    DecS w0 (w'.setCell ⟨p, 5, none⟩ (.slice (some ⟨g1, 0, none⟩) n1 c1)) B r p d an tl nc (upd R 2 ⟨some ⟨g1, 0, none⟩, c1, n1, xs1⟩) ts := h.push 2 hown hg hat h.toks
theorem DecS.push3 (h : DecS w0 w B r p d an tl nc R ts) {g1 c1 n1 : Nat} {xs1 : List Value} (hown : w'.ownsRow B 3 1 (.slice (some ⟨g1, 0, none⟩) n1 c1) n1 xs1) (hg : w.grownBy w' (blkOf (R 3).ao)) (hat : blkOf (R 3).ao = some g1 ∨ w.heap.size ≤ g1) :
    DecS w0 (w'.setCell ⟨d, 1, none⟩ (.slice (some ⟨g1, 0, none⟩) n1 c1)) B r p d an tl nc (upd R 3 ⟨some ⟨g1, 0, none⟩, c1, n1, xs1⟩) ts := h.push 3 hown hg hat h.toks
theorem DecS.push4 (h : DecS w0 w B r p d an tl nc R ts) {g1 c1 n1 : Nat} {xs1 : List Value} (hown : w'.ownsRow B 3 1 (.slice (some ⟨g1, 0, none⟩) n1 c1) n1 xs1) (hg : w.grownBy w' (blkOf (R 4).ao)) (hat : blkOf (R 4).ao = some g1 ∨ w.heap.size ≤ g1) :
    DecS w0 (w'.setCell ⟨d, 2, none⟩ (.slice (some ⟨g1, 0, none⟩) n1 c1)) B r p d an tl nc (upd R 4 ⟨some ⟨g1, 0, none⟩, c1, n1, xs1⟩) ts := h.push 4 hown hg hat h.toks
theorem DecS.push5 (h : DecS w0 w B r p d an tl nc R ts) {g1 c1 n1 : Nat} {xs1 : List Value} (hown : w'.ownsRow B 3 1 (.slice (some ⟨g1, 0, none⟩) n1 c1) n1 xs1) (hg : w.grownBy w' (blkOf (R 5).ao)) (hat : blkOf (R 5).ao = some g1 ∨ w.heap.size ≤ g1) :
    DecS w0 (w'.setCell ⟨d, 3, none⟩ (.slice (some ⟨g1, 0, none⟩) n1 c1)) B r p d an tl nc (upd R 5 ⟨some ⟨g1, 0, none⟩, c1, n1, xs1⟩) ts := h.push 5 hown hg hat h.toks
theorem DecS.cut3 (h : DecS w0 w B r p d an tl nc R ts) {g : Nat} (hg : (R 3).ao = some ⟨g, 0, none⟩) {k : Nat} (hk : k ≤ (R 3).n) :
    DecS w0 (w.setCell ⟨d, 1, none⟩ (.slice (R 3).ao k (R 3).cap)) B r p d an tl nc (upd R 3 ⟨(R 3).ao, (R 3).cap, k, (R 3).xs.take k⟩) ts := h.cut 3 (by decide) hg hk rfl
theorem DecS.cut4 (h : DecS w0 w B r p d an tl nc R ts) {g : Nat} (hg : (R 4).ao = some ⟨g, 0, none⟩) {k : Nat} (hk : k ≤ (R 4).n) :
    DecS w0 (w.setCell ⟨d, 2, none⟩ (.slice (R 4).ao k (R 4).cap)) B r p d an tl nc (upd R 4 ⟨(R 4).ao, (R 4).cap, k, (R 4).xs.take k⟩) ts := h.cut 4 (by decide) hg hk rfl
end
section
variable {R : Fin 6 → Rw} {txt : List Int} {ps : List Bool} {op ct cl : List Nat}
theorem Cont.push0 (h : Cont R txt ps op ct cl) (a : Option Addr) (c k : Nat) (l : List Int) (hk : l.length = k) : Cont (upd R 0 ⟨a, c, (R 0).n + k, (R 0).xs ++ u8s l⟩) (txt ++ l) ps op ct cl :=
  ⟨by rw [upd_same]; show (R 0).xs ++ u8s l = _; rw [h.tx, u8s_app], by rw [upd_same]; show (R 0).n + k = _; rw [h.tn, List.length_append, hk], h.px, h.pn, h.ox, h.on, h.cx, h.cn, h.lx, h.ln⟩
theorem Cont.push1 (h : Cont R txt ps op ct cl) (x : Rw) : Cont (upd R 1 x) txt ps op ct cl := ⟨h.tx, h.tn, h.px, h.pn, h.ox, h.on, h.cx, h.cn, h.lx, h.ln⟩
theorem Cont.push2 (h : Cont R txt ps op ct cl) (a : Option Addr) (c : Nat) (b : Bool) : Cont (upd R 2 ⟨a, c, (R 2).n + 1, (R 2).xs ++ [.bool b]⟩) txt (ps ++ [b]) op ct cl :=
  ⟨h.tx, h.tn, by rw [upd_same]; show (R 2).xs ++ [.bool b] = _; rw [h.px, bools_app]; rfl, by rw [upd_same]; show (R 2).n + 1 = _; rw [h.pn, List.length_append]; rfl, h.ox, h.on, h.cx, h.cn, h.lx, h.ln⟩
theorem Cont.push3 (h : Cont R txt ps op ct cl) (a : Option Addr) (c x : Nat) : Cont (upd R 3 ⟨a, c, (R 3).n + 1, (R 3).xs ++ [.int .i64 (x : Int)]⟩) txt ps (op ++ [x]) ct cl :=
  ⟨h.tx, h.tn, h.px, h.pn, by rw [upd_same]; show (R 3).xs ++ [.int .i64 (x : Int)] = _; rw [h.ox, ints_app]; rfl, by rw [upd_same]; show (R 3).n + 1 = _; rw [h.on, List.length_append]; rfl, h.cx, h.cn, h.lx, h.ln⟩
theorem Cont.push4 (h : Cont R txt ps op ct cl) (a : Option Addr) (c x : Nat) : Cont (upd R 4 ⟨a, c, (R 4).n + 1, (R 4).xs ++ [.int .i64 (x : Int)]⟩) txt ps op (ct ++ [x]) cl :=
  ⟨h.tx, h.tn, h.px, h.pn, h.ox, h.on, by rw [upd_same]; show (R 4).xs ++ [.int .i64 (x : Int)] = _; rw [h.cx, ints_app]; rfl, by rw [upd_same]; show (R 4).n + 1 = _; rw [h.cn, List.length_append]; rfl, h.lx, h.ln⟩
theorem Cont.push5 (h : Cont R txt ps op ct cl) (a : Option Addr) (c x : Nat) : Cont (upd R 5 ⟨a, c, (R 5).n + 1, (R 5).xs ++ [.int .i64 (x : Int)]⟩) txt ps op ct (cl ++ [x]) :=
  ⟨h.tx, h.tn, h.px, h.pn, h.ox, h.on, h.cx, h.cn, by rw [upd_same]; show (R 5).xs ++ [.int .i64 (x : Int)] = _; rw [h.lx, ints_app]; rfl, by rw [upd_same]; show (R 5).n + 1 = _; rw [h.ln, List.length_append]; rfl⟩
theorem Cont.cut3 {x : Nat} (h : Cont R txt ps (op ++ [x]) ct cl) {k : Nat} (hk : op.length = k) : Cont (upd R 3 ⟨(R 3).ao, (R 3).cap, k, (R 3).xs.take k⟩) txt ps op ct cl :=
  ⟨h.tx, h.tn, h.px, h.pn, by rw [upd_same]; show (R 3).xs.take k = _; rw [h.ox, ints_app, List.take_append_of_le_length (by simp [ints, hk]), List.take_of_length_le (by simp [ints, hk])], by rw [upd_same]; exact hk.symm, h.cx, h.cn, h.lx, h.ln⟩
theorem Cont.cut4 {x : Nat} (h : Cont R txt ps op (ct ++ [x]) cl) {k : Nat} (hk : ct.length = k) : Cont (upd R 4 ⟨(R 4).ao, (R 4).cap, k, (R 4).xs.take k⟩) txt ps op ct cl :=
  ⟨h.tx, h.tn, h.px, h.pn, h.ox, h.on, by rw [upd_same]; show (R 4).xs.take k = _; rw [h.cx, ints_app, List.take_append_of_le_length (by simp [ints, hk]), List.take_of_length_le (by simp [ints, hk])], by rw [upd_same]; exact hk.symm, h.lx, h.ln⟩
end
/-- A state beside the one before: the rows of what is open stand. -/
def Mid (w0 wc : World) (B r p d : Nat) (an tl : Bool) (nc : Nat) (ts : List Tk) (txt : List Int) (ps : List Bool) (op ct cl : List Nat) (R : Fin 6 → Rw) : Prop :=
  ∃ R', DecS w0 wc B r p d an tl nc R' ts ∧ Cont R' txt ps op ct cl ∧ R' 3 = R 3 ∧ R' 4 = R 4

/-- A region of a code. -/
def findReg (n : Nat) : Code → Option Code
  | .region id ops b => if id = n then some (.region id ops b) else none
  | .scope c => findReg n c
  | .seq a b => match findReg n a with
    | some c => some c
    | none => findReg n b
  | .block _ c => findReg n c
  | .loop c => findReg n c
  | .cond _ a b => match findReg n a with
    | some c => some c
    | none => findReg n b
  | _ => none
/-- A region of closeOne. -/
noncomputable def closeRg (n : Nat) : Code := (Tryf.f14.body.bind (findReg n)).getD .skip
theorem wp_code {P : Program} {c c' : Code} {Q : Exit → Act → World → Prop} {a : Act} {w : World} (h : c = c') (hw : c'.wp P Q a w) : c.wp P Q a w := h ▸ hw
/-- A region's end: the frame, the world. -/
def RgPost (F : Act → Prop) (X : World → Prop) : Exit → Act → World → Prop
  | .normal, a, w' => F a ∧ X w'
  | _, _, _ => False
/-- A state behind a region: the rows of what is open stand. -/
def RgX (w0 : World) (B r p d : Nat) (an tl : Bool) (nc : Nat) (ts : List Tk) (txt : List Int) (ps : List Bool) (op ct cl : List Nat) (R1 : Fin 6 → Rw) (wc : World) : Prop :=
  ∃ R', DecS w0 wc B r p d an tl nc R' ts ∧ Cont R' txt ps op ct cl ∧ R' 3 = R1 3 ∧ R' 4 = R1 4
end Go.Proofs.YtcfhhcjcnafcjaaFmt
