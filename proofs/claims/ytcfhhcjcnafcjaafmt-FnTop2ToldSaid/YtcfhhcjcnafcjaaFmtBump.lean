/-
  The contract of the decoder's count of a capture's items. Its condition: the decoder's state lies in memory as told.
-/
import Derived.Test.YtcfhhcjcnafcjaaFmtDecS
import Derived.StillTailTactics
namespace Go.Proofs.YtcfhhcjcnafcjaaFmt
open Go.RowKit
set_option linter.unusedVariables false
set_option linter.unusedSimpArgs false

def ints (l : List Nat) : List Value := l.map fun (n : Nat) => .int .i64 (n : Int)
theorem ints_app (a b : List Nat) : ints (a ++ b) = ints a ++ ints b := by simp [ints]
theorem ints_get (l : List Nat) (k : Nat) : (ints l)[k]? = l[k]?.map fun (n : Nat) => Value.int .i64 (n : Int) := by simp [ints]
def bools (l : List Bool) : List Value := l.map .bool
theorem bools_app (a b : List Bool) : bools (a ++ b) = bools a ++ bools b := by simp [bools]
/-- What the rows hold. -/
structure Cont (R : Fin 6 → Rw) (txt : List Int) (ps : List Bool) (op ct cl : List Nat) : Prop where
  tx : (R 0).xs = u8s txt
  tn : (R 0).n = txt.length
  px : (R 2).xs = bools ps
  pn : (R 2).n = ps.length
  ox : (R 3).xs = ints op
  on : (R 3).n = op.length
  cx : (R 4).xs = ints ct
  cn : (R 4).n = ct.length
  lx : (R 5).xs = ints cl
  ln : (R 5).n = cl.length
/-- The last number, one more. -/
def bumpL (l : List Nat) : List Nat := match l.reverse with
  | [] => []
  | x :: r => ((x + 1) :: r).reverse
theorem bumpL_nil : bumpL [] = [] := rfl
theorem bumpL_app (c : List Nat) (x : Nat) : bumpL (c ++ [x]) = c ++ [x + 1] := by simp [bumpL]
theorem bumpL_len (l : List Nat) : (bumpL l).length = l.length := by
  rcases List.eq_nil_or_concat l with h | ⟨c, x, h⟩
  · rw [h]; rfl
  · rw [List.concat_eq_append] at h; rw [h, bumpL_app]; simp
theorem row_some {w : World} {B : Nat} {T : TypeId} {sz n cap : Nat} {ao : Option Addr} {xs : List Value} (h : w.ownsRow B T sz (.slice ao n cap) n xs) (h0 : 0 < n) : ∃ g, ao = some ⟨g, 0, none⟩ := by
  rcases h.2 with ⟨_, h2⟩ | ⟨g, c', cur, h1, _⟩
  · omega
  · simp only [Value.slice.injEq] at h1; exact ⟨g, h1.1⟩
/-- What the decoder's helpers leave. -/
def DPost (w0 : World) (B r p d : Nat) (an tl : Bool) (nc : Nat) (ts : List Tk) (txt : List Int) (ps : List Bool) (op ct cl : List Nat) (w' : World) : Prop :=
  ∃ R, DecS w0 w' B r p d an tl nc R ts ∧ Cont R txt ps op ct cl
set_option maxRecDepth 100000 in
set_option maxHeartbeats 1000000 in
theorem bump_any {w0 w : World} {B r p d nc : Nat} {an tl : Bool} {R : Fin 6 → Rw} {ts : List Tk} {txt : List Int} {ps : List Bool} {op ct cl : List Nat} (h : DecS w0 w B r p d an tl nc R ts) (hc : Cont R txt ps op ct cl) (hl : ∀ x, x ∈ ct → x ≤ 1048576) (hn : ct.length ≤ 16) :
    Calls Tryf.prog 13 #[.pointer (some ⟨d, 0, none⟩)] w fun e w' => e = .returned (.tuple #[]) ∧ DPost w0 B r p d an tl nc ts txt ps op (bumpL ct) cl w' ∧ ∀ k, blkOf (R 4).ao ≠ some k → w'.heap[k]? = w.heap[k]? := by
  have hcx := hc.cx
  have hcn := hc.cn
  have h4 : w.ownsRow B 3 1 (.slice (R 4).ao (R 4).n (R 4).cap) (R 4).n (R 4).xs := h.own 4
  have kd : w.cell? ⟨d, 2, none⟩ = some (.slice (R 4).ao (R 4).n (R 4).cap) := blk_cell h.dblk 2 _ rfl
  have H := Lib.hid h
  have HC := Lib.hid hc
  clear h hc
  rcases List.eq_nil_or_concat ct with rfl | ⟨c, x, rfl⟩
  · have e0 : (R 4).n = 0 := hcn
    rw [e0] at kd
    clear h4 hcx hcn
    go_enter Tryf.func13, Tryf.ntmps13
    go_wp2_with fail
    go_end0
    exact ⟨rfl, ⟨R, H.out, HC.out⟩, fun _ _ => rfl⟩
  · rw [List.concat_eq_append] at *
    have e0 : (R 4).n = c.length + 1 := by rw [hcn]; simp
    obtain ⟨g, hg⟩ := row_some h4 (by omega)
    have hx : x ≤ 1048576 := hl x (by simp)
    have hcl : c.length ≤ 16 := by simp at hn; omega
    have kc : w.cell? ⟨g, c.length, none⟩ = some (.int .i64 (x : Int)) := by
      rw [hg] at h4
      refine (h4.cellAt c.length (by omega)).trans ?_
      rw [hcx, ints_get]
      simp
    have fc : w.frozen? ⟨g, c.length, none⟩ = false := by
      rw [hg] at h4
      exact h4.frozenAt c.length
    rw [e0, hg] at kd
    have hci : (c.length : Int) + 1 - 1 = (c.length : Int) := by omega
    have hb1 : (c.length : Int) < (c.length : Int) + 1 := by omega
    have hb2 : (c.length : Int) < ((c.length + 1 : Nat) : Int) := by omega
    have hb3 : c.length < c.length + 1 := by omega
    have HG := Lib.hid hg
    have HCX := Lib.hid hcx
    generalize (R 4).cap = cap4 at kd
    obtain ⟨k, hk⟩ : ∃ k, c.length = k := ⟨_, rfl⟩
    rw [hk] at kd kc fc hb1 hb2 hb3 hci hcl
    have HKL := Lib.hid hk
    have he0 := Lib.hid e0
    clear hk hn e0
    have hwk : IntKind.i64.wrap (k : Int) = (k : Int) := by rw [IntWalk.i64_in _ (by omega)]
    have hwx : IntKind.i64.wrap ((x : Int) + 1) = (x : Int) + 1 := by rw [IntWalk.i64_in _ (by omega)]
    clear h4 hl hcx hcn hg
    go_enter Tryf.func13, Tryf.ntmps13
    go_wp2_with fail
    go_still_tail 14, (by kernel_rfl)
    change wpList _ _ _ _ _ w.drew
    go_wp2_with fail
    go_end0
    have HP := H.out.drew.poke (i := 4) (by decide) HG.out k (.int .i64 ((x : Int) + 1))
    have C := HC.out
    refine ⟨rfl, ⟨_, HP, ⟨C.tx, C.tn, C.px, C.pn, C.ox, C.on, ?_, ?_, C.lx, C.ln⟩⟩, fun j hj => Below.heap_setCell w.drew ⟨g, k, none⟩ _ j (fun e => hj (by rw [HG.out, e]; rfl))⟩
    · show ((R 4).xs.set k (.int .i64 ((x : Int) + 1))) = _
      rw [← HKL.out, HCX.out, bumpL_app, ints_app, ints_app]
      rw [List.set_append_right _ _ (by simp [ints])]
      simp [ints]
    · show (R 4).n = _
      rw [he0.out, bumpL_app]
      simp
end Go.Proofs.YtcfhhcjcnafcjaaFmt
