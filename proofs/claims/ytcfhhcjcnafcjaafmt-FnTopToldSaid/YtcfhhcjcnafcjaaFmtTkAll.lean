/-
  The reference's tokens; the reader's contracts. Conditions as each statement says.
-/
import Derived.Test.YtcfhhcjcnafcjaaFmtClsAll
import Derived.Deep.OwnRows
import Derived.Test.YtcfhhcjcnafcjaaFmtBase
import Derived.BigQuiet
namespace Go.Proofs.YtcfhhcjcnafcjaaFmt
open Go.RowKit
set_option linter.unusedVariables false
set_option linter.unusedSimpArgs false


/-- An item of a set. -/
inductive SI where
  | chr (z : Int)
  | rng (a b : Int)
  | esc (z : Int)
/-- A class. -/
inductive CK where
  | lit (z : Int)
  | dot
  | esc (z : Int)
  | set (neg : Bool) (l : List SI)
/-- A token. -/
inductive Tk where
  | cls (c : CK) (q : Int)
  | opn (n : Nat)
  | clo (n : Nat)
  | pos (n : Nat)
  | ref (n : Nat)
  | brc (x y : Int)
/-- The letters and signs that may stand behind '%'. -/
def picks : List Int := [97, 99, 100, 108, 112, 115, 117, 119, 120, 122, 65, 67, 68, 76, 80, 83, 85, 87, 88, 90, 46, 37, 40, 41, 91, 93, 42, 43, 45, 63, 94, 36]
def lits13 : List Int := [97, 98, 99, 120, 121, 122, 48, 49, 32, 95, 65, 0, 255]
def sets10 : List Int := [97, 98, 99, 120, 121, 122, 48, 49, 46, 95]
def rngs6 : List (Int × Int) := [(97, 99), (120, 122), (48, 57), (98, 98), (99, 97), (65, 90)]
def brcs4 : List (Int × Int) := [(40, 41), (97, 98), (97, 97), (91, 93)]
def SI.ok : SI → Prop
  | .chr z => z ∈ sets10
  | .rng a b => (a, b) ∈ rngs6
  | .esc z => z ∈ picks
def CK.ok : CK → Prop
  | .lit z => z ∈ lits13
  | .dot => True
  | .esc z => z ∈ picks
  | .set _ l => l ≠ [] ∧ l.length ≤ 4 ∧ ∀ i, i ∈ l → i.ok
def SI.txt : SI → List Int
  | .chr z => [z]
  | .rng a b => [a, 45, b]
  | .esc z => [37, z]
def CK.txt : CK → List Int
  | .lit z => [z]
  | .dot => [46]
  | .esc z => [37, z]
  | .set neg l => 91 :: (if neg then [94] else []) ++ l.flatMap SI.txt ++ [93]
def qtxt (q : Int) : List Int := if q = 0 then [] else [q]
def Tk.txt : Tk → List Int
  | .cls c q => c.txt ++ qtxt q
  | .opn _ => [40]
  | .clo _ => [41]
  | .pos _ => [40, 41]
  | .ref n => [37, 48 + (n : Int)]
  | .brc x y => [37, 98, x, y]
def txts (l : List Tk) : List Int := l.flatMap Tk.txt
theorem txts_app (a b : List Tk) : txts (a ++ b) = txts a ++ txts b := by simp [txts]
theorem txts_one (t : Tk) : txts [t] = t.txt := by simp [txts]

/-- The three cells of an item. -/
def SI.cells : SI → List Value
  | .chr z => [.int .i64 0, .int .i64 z, .int .i64 0]
  | .rng a b => [.int .i64 1, .int .i64 a, .int .i64 b]
  | .esc z => [.int .i64 2, .int .i64 z, .int .i64 0]
def sicells (l : List SI) : List Value := l.flatMap SI.cells
theorem sicells_app (a b : List SI) : sicells (a ++ b) = sicells a ++ sicells b := by simp [sicells]
theorem sicells_one (i : SI) : sicells [i] = i.cells := by simp [sicells]
/-- The items of a set as they lie. -/
def ItsAt (w : World) (B : Nat) (ao : Option Addr) (cap : Nat) (l : List SI) : Prop := w.ownsRow B 84 3 (.slice ao l.length cap) l.length (sicells l)
/-- The four cells of a class. -/
inductive CkAt (w : World) (B : Nat) : CK → List Value → Prop
  | lit {z : Int} : CkAt w B (.lit z) [.int .i64 0, .int .i64 z, .bool false, .slice none 0 0]
  | dot : CkAt w B .dot [.int .i64 1, .int .i64 0, .bool false, .slice none 0 0]
  | esc {z : Int} : CkAt w B (.esc z) [.int .i64 2, .int .i64 z, .bool false, .slice none 0 0]
  | set {neg : Bool} {l : List SI} {ao : Option Addr} {cap : Nat} : ItsAt w B ao cap l → CkAt w B (.set neg l) [.int .i64 3, .int .i64 0, .bool neg, .slice ao l.length cap]
/-- The eight cells of a token. -/
inductive TkAt (w : World) (B : Nat) : Tk → List Value → Prop
  | cls {c : CK} {q : Int} {xs : List Value} : CkAt w B c xs → TkAt w B (.cls c q) (.int .i64 0 :: xs ++ [.int .u8 q, .int .i64 0, .int .i64 0])
  | opn {n : Nat} : TkAt w B (.opn n) [.int .i64 1, .int .i64 0, .int .i64 0, .bool false, .slice none 0 0, .int .u8 0, .int .i64 n, .int .i64 0]
  | clo {n : Nat} : TkAt w B (.clo n) [.int .i64 2, .int .i64 0, .int .i64 0, .bool false, .slice none 0 0, .int .u8 0, .int .i64 n, .int .i64 0]
  | pos {n : Nat} : TkAt w B (.pos n) [.int .i64 3, .int .i64 0, .int .i64 0, .bool false, .slice none 0 0, .int .u8 0, .int .i64 n, .int .i64 0]
  | ref {n : Nat} : TkAt w B (.ref n) [.int .i64 4, .int .i64 0, .int .i64 0, .bool false, .slice none 0 0, .int .u8 0, .int .i64 n, .int .i64 0]
  | brc {x y : Int} : TkAt w B (.brc x y) [.int .i64 5, .int .i64 0, .int .i64 0, .bool false, .slice none 0 0, .int .u8 0, .int .i64 x, .int .i64 y]
/-- Blocks of set items stay as they are. -/
def ItsKept (w w' : World) (B : Nat) : Prop := ∀ g cs r, B ≤ g → w.heap[g]? = some (.cells cs 84 r) → w'.heap[g]? = some (.cells cs 84 r)
theorem ItsKept.refl (w : World) (B : Nat) : ItsKept w w B := fun _ _ _ _ h => h
theorem ItsKept.trans {a b c : World} {B : Nat} (h : ItsKept a b B) (k : ItsKept b c B) : ItsKept a c B := fun g cs r hB h1 => k g cs r hB (h g cs r hB h1)
theorem ItsAt.kept {w w' : World} {B : Nat} {ao : Option Addr} {cap : Nat} {l : List SI} (h : ItsAt w B ao cap l) (hk : ItsKept w w' B) : ItsAt w' B ao cap l := by
  refine owns_kept h fun g o hg ho => ?_
  obtain ⟨c, hc⟩ := own_type h g hg
  have hB := (owns_lt h g hg).1
  rw [ho] at hc
  injection hc with hc
  subst hc
  exact hk g c _ hB ho
theorem CkAt.kept {w w' : World} {B : Nat} {c : CK} {xs : List Value} (h : CkAt w B c xs) (hk : ItsKept w w' B) : CkAt w' B c xs := by
  cases h with
  | lit => exact .lit
  | dot => exact .dot
  | esc => exact .esc
  | set h => exact .set (h.kept hk)
theorem CkAt.four {w : World} {B : Nat} {c : CK} {xs : List Value} (h : CkAt w B c xs) : xs.length = 4 := by cases h <;> rfl
theorem CkAt.one {w : World} {B : Nat} {c : CK} {xs : List Value} (h : CkAt w B c xs) : ∀ u ∈ xs, u.oneCell' = true := by
  cases h <;> (intro u hu; simp at hu; rcases hu with rfl | rfl | rfl | rfl <;> rfl)
theorem TkAt.kept {w w' : World} {B : Nat} {t : Tk} {xs : List Value} (h : TkAt w B t xs) (hk : ItsKept w w' B) : TkAt w' B t xs := by
  cases h with
  | cls h => exact .cls (h.kept hk)
  | opn => exact .opn
  | clo => exact .clo
  | pos => exact .pos
  | ref => exact .ref
  | brc => exact .brc
theorem TkAt.eight {w : World} {B : Nat} {t : Tk} {xs : List Value} (h : TkAt w B t xs) : xs.length = 8 := by
  cases h with
  | cls h => simp [h.four]
  | _ => rfl
/-- Tokens one after the other. -/
inductive TksAt (w : World) (B : Nat) : List Tk → List Value → Prop
  | nil : TksAt w B [] []
  | cons {t ts xs ys} : TkAt w B t xs → TksAt w B ts ys → TksAt w B (t :: ts) (xs ++ ys)
theorem TksAt.kept {w w' : World} {B : Nat} {ts : List Tk} {xs : List Value} (h : TksAt w B ts xs) (hk : ItsKept w w' B) : TksAt w' B ts xs := by
  induction h with
  | nil => exact .nil
  | cons h _ ih => exact .cons (h.kept hk) ih
theorem TksAt.append {w : World} {B : Nat} {ts us : List Tk} {xs ys : List Value} (h : TksAt w B ts xs) (k : TksAt w B us ys) : TksAt w B (ts ++ us) (xs ++ ys) := by
  induction h with
  | nil => exact k
  | cons h1 _ ih => rw [List.append_assoc]; exact .cons h1 ih
theorem TksAt.one {w : World} {B : Nat} {t : Tk} {xs : List Value} (h : TkAt w B t xs) : TksAt w B [t] xs := by
  have := TksAt.cons h .nil
  rwa [List.append_nil] at this
theorem TksAt.length {w : World} {B : Nat} {ts : List Tk} {xs : List Value} (h : TksAt w B ts xs) : xs.length = ts.length * 8 := by
  induction h with
  | nil => rfl
  | cons h1 _ ih => rw [List.length_append, h1.eight, ih, List.length_cons]; omega

/-- A reader of bytes at the block r: it reads bytes that lie below B. -/
def RdAt (w : World) (B r : Nat) : Prop :=
  ∃ (a : Option Addr) (zs : List Int) (cap i : Nat), w.heap[r]? = some (.cells #[.slice a zs.length cap, .int .i64 (i : Int)] 50 (0, 0)) ∧ RowInt .u8 w a zs ∧ (0 < zs.length → ∀ x, a = some x → x.block < B) ∧ (∀ z, z ∈ zs → 0 ≤ z ∧ z ≤ 255) ∧ zs.length ≤ 1048576 ∧ B ≤ r ∧ i ≤ zs.length
theorem RdAt.kept {w w' : World} {B r : Nat} (h : RdAt w B r) (hk : w'.heap[r]? = w.heap[r]?) (hb : ∀ k, k < B → w'.heap[k]? = w.heap[k]?) : RdAt w' B r := by
  obtain ⟨a, zs, cap, i, h1, h2, h3, h4⟩ := h
  refine ⟨a, zs, cap, i, hk.trans h1, fun h0 => ?_, h3, h4⟩
  obtain ⟨sb, so, e, hc⟩ := h2 h0
  exact ⟨sb, so, e, fun j hj => (World.cell?_of_block (hb sb (h3 h0 _ e))).trans (hc j hj)⟩
theorem RdAt.grown {w w' : World} {B r : Nat} (h : RdAt w B r) {g : Option Nat} (hg : w.grownBy w' g) (hr : g ≠ some r) (hB : ∀ x, g = some x → B ≤ x) (hs : B ≤ w.heap.size) : RdAt w' B r := by
  have hlt : r < w.heap.size := by obtain ⟨_, _, _, _, h1, _⟩ := h; exact blk_lt h1
  exact h.kept (hg.block r hlt (fun e => hr e.symm)) (fun k hk => hg.block k (by omega) (fun e => by have := hB k e.symm; omega))


set_option maxHeartbeats 1000000 in
theorem more_any {w : World} {B r : Nat} (h : RdAt w B r) : Calls Tryf.prog 12 #[.pointer (some ⟨r, 0, none⟩)] w fun e w' => ∃ b n, e = .returned (.bool b) ∧ w' = w.drewN n := by
  obtain ⟨a, zs, cap, i, hb, -⟩ := h
  have k0 := blk_cell hb 0 _ rfl
  have k1 := blk_cell hb 1 _ rfl
  clear hb
  go_enter Tryf.func12, Tryf.ntmps12
  go_wp2_with fail
  go_quiet (fail)
  generalize hwd : World.drewN w _ = wd
  have HQ : Hid (∃ q, wd = w.drewN q) := by subst hwd; exact Lib.hid ⟨_, rfl⟩
  clear hwd
  go_wp2_with fail
  go_ret
  obtain ⟨q, hq⟩ := HQ.out
  exact ⟨_, q, rfl, hq⟩
set_option maxHeartbeats 1000000 in
theorem next_rd {w : World} {B r : Nat} (h : RdAt w B r) : Calls Tryf.prog 11 #[.pointer (some ⟨r, 0, none⟩)] w fun e w' => ∃ v : Nat, v ≤ 255 ∧ e = .returned (.int .i64 (v : Int)) ∧ RdAt w' B r ∧ w.grownBy w' (some r) := by
  obtain ⟨a, zs, cap, i, hb, hrow, hlt, hby, hln, hBr, hil⟩ := h
  have k0 := blk_cell hb 0 _ rfl
  have k1 := blk_cell hb 1 _ rfl
  have f1 := blk_free hb 1
  have HBK := Lib.hid hb
  have HROW := Lib.hid hrow
  have HLT := Lib.hid hlt
  have HBY := Lib.hid hby
  clear hrow hlt hby hb
  by_cases hi : i < zs.length
  · obtain ⟨sb, so, rfl, hsc⟩ := HROW.out (by omega)
    obtain ⟨v, hv, hv2⟩ : ∃ v : Nat, zs.getD i 0 = (v : Int) ∧ v ≤ 255 := by
      have hm : zs.getD i 0 ∈ zs := by rw [List.getD_eq_getElem?_getD, List.getElem?_eq_getElem hi]; exact List.getElem_mem hi
      have := HBY.out _ hm
      exact ⟨(zs.getD i 0).toNat, by omega, by omega⟩
    have kc := hsc i hi
    rw [hv] at kc
    have hii : (i : Int) < (zs.length : Int) := by omega
    have tl : decide ((zs.length : Int) ≤ (i : Int)) = false := decide_eq_false (by omega)
    have tl2 : decide (zs.length ≤ i) = false := decide_eq_false (by omega)
    have hsb : sb ≠ r := by have := HLT.out (by omega) _ rfl; simp only at this; omega
    clear hv hsc
    go_enter Tryf.func11, Tryf.ntmps11
    go_wp2_with fail
    go_quiet (fail)
    generalize hwd : World.drewN w _ = wd
    have HBd : Hid (wd.heap[r]? = some (.cells #[.slice (some ⟨sb, so, none⟩) zs.length cap, .int .i64 (i : Int)] 50 (0, 0))) := by subst hwd; exact HBK
    have HRd : Hid (RowInt .u8 wd (some ⟨sb, so, none⟩) zs) := by subst hwd; exact HROW
    have HGd : Hid (w.grownBy wd (some r)) := by subst hwd; exact Lib.hid (one_drewN (one_refl w _) _)
    have kc2 : wd.cell? ⟨sb, so + i, none⟩ = some (.int .u8 (v : Int)) := by subst hwd; exact kc
    clear hwd kc k0 k1 f1
    have k0 := blk_cell HBd.out 0 _ rfl
    have k1 := blk_cell HBd.out 1 _ rfl
    have f1 := blk_free HBd.out 1
    go_wp2_with fail
    go_quiet (fail)
    generalize hwe : World.drewN wd _ = we
    have HBe : Hid (we.heap[r]? = some (.cells #[.slice (some ⟨sb, so, none⟩) zs.length cap, .int .i64 (i : Int)] 50 (0, 0))) := by subst hwe; exact HBd
    have HRe : Hid (RowInt .u8 we (some ⟨sb, so, none⟩) zs) := by subst hwe; exact HRd
    have HGe : Hid (w.grownBy we (some r)) := by subst hwe; exact Lib.hid (one_drewN HGd.out _)
    clear hwe kc2 k0 k1 f1
    have k1 := blk_cell HBe.out 1 _ rfl
    have f1 := blk_free HBe.out 1
    go_wp2_with fail
    go_ret
    have hset := blk_set HBe.out 1 (.int .i64 ((i : Int) + 1))
    refine ⟨v, hv2, rfl, ⟨some ⟨sb, so, none⟩, zs, cap, i + 1, hset, fun h0 => ?_, HLT.out, HBY.out, hln, hBr, by omega⟩, one_setCell HGe.out (.inl rfl) _⟩
    obtain ⟨sb2, so2, e, hc⟩ := HRe.out h0
    exact ⟨sb2, so2, e, fun j hj => (World.cell?_of_block (Below.heap_setCell _ _ _ _ (by injection e with e; injection e with e; subst e; exact hsb))).trans (hc j hj)⟩
  · have tl : decide ((zs.length : Int) ≤ (i : Int)) = true := decide_eq_true (by omega)
    have tl2 : decide (zs.length ≤ i) = true := decide_eq_true (by omega)
    go_enter Tryf.func11, Tryf.ntmps11
    go_wp2_with fail
    go_quiet (fail)
    generalize hwd : World.drewN w _ = wd
    have HBd : Hid (wd.heap[r]? = some (.cells #[.slice a zs.length cap, .int .i64 (i : Int)] 50 (0, 0))) := by subst hwd; exact HBK
    have HRd : Hid (RowInt .u8 wd a zs) := by subst hwd; exact HROW
    have HGd : Hid (w.grownBy wd (some r)) := by subst hwd; exact Lib.hid (one_drewN (one_refl w _) _)
    clear hwd
    go_wp2_with fail
    go_ret
    exact ⟨0, by omega, rfl, ⟨a, zs, cap, i, HBd.out, HRd.out, HLT.out, HBY.out, hln, hBr, hil⟩, HGd.out⟩

/-- The letter behind '%'. -/
def pickZ (k : Nat) : Int := picks.getD (k % 32) 0
theorem pick_mem (k : Nat) : pickZ k ∈ picks := by
  have h : k % 32 < picks.length := Nat.mod_lt _ (by decide)
  unfold pickZ
  rw [List.getD_eq_getElem?_getD, List.getElem?_eq_getElem h]
  exact List.getElem_mem h
def str20 : ByteArray := ⟨#[97, 99, 100, 108, 112, 115, 117, 119, 120, 122, 65, 67, 68, 76, 80, 83, 85, 87, 88, 90]⟩
def str12 : ByteArray := ⟨#[46, 37, 40, 41, 91, 93, 42, 43, 45, 63, 94, 36]⟩
set_option maxHeartbeats 1000000 in
theorem pick_any (k : Nat) (hk : k ≤ 255) (w : World) : Calls Tryf.prog 22 #[.int .i64 (k : Int)] w fun e w' => e = .returned (.int .u8 (pickZ k)) ∧ w = w' := by
  have hm : (Int.tmod (k : Int) 32) = ((k % 32 : Nat) : Int) := by rw [Int.tmod_eq_emod_of_nonneg (by omega)]; omega
  obtain ⟨m, hm2⟩ : ∃ m, k % 32 = m := ⟨_, rfl⟩
  have hml : m < 32 := by omega
  have hp : pickZ k = picks.getD m 0 := by unfold pickZ; rw [hm2]
  rw [hm2] at hm
  rw [hp]
  clear hp hm2
  have hcase : m = 0 ∨ m = 1 ∨ m = 2 ∨ m = 3 ∨ m = 4 ∨ m = 5 ∨ m = 6 ∨ m = 7 ∨ m = 8 ∨ m = 9 ∨ m = 10 ∨ m = 11 ∨ m = 12 ∨ m = 13 ∨ m = 14 ∨ m = 15 ∨ m = 16 ∨ m = 17 ∨ m = 18 ∨ m = 19 ∨ m = 20 ∨ m = 21 ∨ m = 22 ∨ m = 23 ∨ m = 24 ∨ m = 25 ∨ m = 26 ∨ m = 27 ∨ m = 28 ∨ m = 29 ∨ m = 30 ∨ m = 31 := by omega
  clear hml
  rcases hcase with rfl | rfl | rfl | rfl | rfl | rfl | rfl | rfl | rfl | rfl | rfl | rfl | rfl | rfl | rfl | rfl | rfl | rfl | rfl | rfl | rfl | rfl | rfl | rfl | rfl | rfl | rfl | rfl | rfl | rfl | rfl | rfl
  all_goals
    go_enter Tryf.func22, Tryf.ntmps22
    go_wp2
    go_ret
    exact ⟨rfl, rfl⟩

end Go.Proofs.YtcfhhcjcnafcjaaFmt
