/-
  The contract of the reference's search. Conditions as each statement says.
-/
import Derived.Test.YtcfhhcjcnafcjaaFmtRfX
import Derived.Deep.RegionHeld3
import Derived.Test.YtcfhhcjcnafcjaaFmtMatchRefs
import Derived.Test.YtcfhhcjcnafcjaaFmtRfR15
import Derived.Test.YtcfhhcjcnafcjaaFmtRfR17
import Derived.Deep.LoopGhost
import Derived.Deep.CutRange
import Derived.Deep.DeepCutAuto
import Derived.BigGuardPart
namespace Go.Proofs.YtcfhhcjcnafcjaaFmt
open Go.RowKit
set_option linter.unusedVariables false
set_option linter.unusedSimpArgs false


theorem made_ints (n : Nat) : (madeCells #[Value.int .i64 0] n).toList = ints (List.replicate n 0) := by
  simp [madeCells, ints]
  apply List.ext_getElem
  · simp
  · intro i h1 h2; simp [Nat.mod_one]
theorem made_row (w : World) (B n : Nat) (hB : B ≤ w.heap.size) (hn : n ≤ 100) : (w.alloc (.cells (madeCells #[.int .i64 0] n) 3)).ownsRow B 3 1 (.slice (some ⟨w.heap.size, 0, none⟩) n n) n (ints (List.replicate n 0)) := by
  have h := World.ownsRow_lit (e := 3) (size := 1) w (madeCells #[.int .i64 0] n) (base := B) n hB (by unfold maxLen; omega) (by have := congrArg List.length (made_ints n); simp [ints] at this; simpa using this)
  rw [made_ints] at h
  exact h
theorem rg4_fin (w : World) {nc : Nat} (m0 m1 m4 : Value) (c e : Nat) (hce : (c = w.heap.size ∧ e = w.heap.size + 1) ∨ (c = w.heap.size + 1 ∧ e = w.heap.size)) (hnc : nc ≤ 12) :
    (((w.alloc (.cells (madeCells #[.int .i64 0] (nc + 1)) 3)).alloc (.cells (madeCells #[.int .i64 0] (nc + 1)) 3)).alloc (.cells #[m0, m1, .slice (some ⟨c, 0, none⟩) (nc + 1) (nc + 1), .slice (some ⟨e, 0, none⟩) (nc + 1) (nc + 1), m4] 64)).drew.heap[w.heap.size + 1 + 1]? = some (.cells #[m0, m1, .slice (some ⟨c, 0, none⟩) (nc + 1) (nc + 1), .slice (some ⟨e, 0, none⟩) (nc + 1) (nc + 1), m4] 64 (0, 0)) ∧
    (((w.alloc (.cells (madeCells #[.int .i64 0] (nc + 1)) 3)).alloc (.cells (madeCells #[.int .i64 0] (nc + 1)) 3)).alloc (.cells #[m0, m1, .slice (some ⟨c, 0, none⟩) (nc + 1) (nc + 1), .slice (some ⟨e, 0, none⟩) (nc + 1) (nc + 1), m4] 64)).drew.ownsRow w.heap.size 3 1 (.slice (some ⟨c, 0, none⟩) (nc + 1) (nc + 1)) (nc + 1) (ints (List.replicate (nc + 1) 0)) ∧
    (((w.alloc (.cells (madeCells #[.int .i64 0] (nc + 1)) 3)).alloc (.cells (madeCells #[.int .i64 0] (nc + 1)) 3)).alloc (.cells #[m0, m1, .slice (some ⟨c, 0, none⟩) (nc + 1) (nc + 1), .slice (some ⟨e, 0, none⟩) (nc + 1) (nc + 1), m4] 64)).drew.ownsRow w.heap.size 3 1 (.slice (some ⟨e, 0, none⟩) (nc + 1) (nc + 1)) (nc + 1) (ints (List.replicate (nc + 1) 0)) ∧
    c ≠ e ∧ Below w.heap.size w (((w.alloc (.cells (madeCells #[.int .i64 0] (nc + 1)) 3)).alloc (.cells (madeCells #[.int .i64 0] (nc + 1)) 3)).alloc (.cells #[m0, m1, .slice (some ⟨c, 0, none⟩) (nc + 1) (nc + 1), .slice (some ⟨e, 0, none⟩) (nc + 1) (nc + 1), m4] 64)).drew := by
  have hd : ∀ W : World, Below W.heap.size W W.drew := fun W => ⟨rfl, rfl, rfl, Nat.le_refl _, fun _ _ => rfl⟩
  generalize hM : Obj.cells #[m0, m1, .slice (some ⟨c, 0, none⟩) (nc + 1) (nc + 1), .slice (some ⟨e, 0, none⟩) (nc + 1) (nc + 1), m4] 64 = M
  have r0 := made_row w w.heap.size (nc + 1) (Nat.le_refl _) (by omega)
  have r1 := made_row (w.alloc (.cells (madeCells #[.int .i64 0] (nc + 1)) 3)) w.heap.size (nc + 1) (by simp) (by omega)
  have s1 : (w.alloc (.cells (madeCells #[.int .i64 0] (nc + 1)) 3)).heap.size = w.heap.size + 1 := by simp
  have s2 : ((w.alloc (.cells (madeCells #[.int .i64 0] (nc + 1)) 3)).alloc (.cells (madeCells #[.int .i64 0] (nc + 1)) 3)).heap.size = w.heap.size + 1 + 1 := by simp
  rw [s1] at r1
  have hk : ∀ {W : World} {B n cap : Nat} {ao : Option Addr} {xs : List Value}, W.ownsRow B 3 1 (.slice ao n cap) n xs → W.drew.ownsRow B 3 1 (.slice ao n cap) n xs := fun h => owns_kept h (fun g o _ ho => ho)
  have r0' := hk ((r0.alloc (.cells (madeCells #[.int .i64 0] (nc + 1)) 3)).alloc M)
  have r1' := hk (r1.alloc M)
  refine ⟨?_, ?_, ?_, by omega, ?_⟩
  · have h := blk_drew (blk_new ((w.alloc (.cells (madeCells #[.int .i64 0] (nc + 1)) 3)).alloc (.cells (madeCells #[.int .i64 0] (nc + 1)) 3)) M)
    rw [s2] at h
    rw [h, ← hM]
  · rcases hce with ⟨rfl, rfl⟩ | ⟨rfl, rfl⟩
    · exact r0'
    · exact r1'
  · rcases hce with ⟨rfl, rfl⟩ | ⟨rfl, rfl⟩
    · exact r1'
    · exact r0'
  · exact ((((Below.refl _ _).alloc (Nat.le_refl _) _).alloc (by simp) _).alloc (by simp; omega) _).trans ((hd _).mono (by simp; omega))
set_option maxRecDepth 100000 in
set_option maxHeartbeats 40000000 in
theorem rf_rg4 {w : World} {p n scap nc nT cT nK cK nP cP : Nat} {sa aT aK aP : Option Addr} {an tl : Bool} {u2 u3 u4 u5 u6 u7 u8 u9 u10 u11 u12 u13 u14 u15 u16 u17 u18 u19 u20 u21 u22 u23 u24 u25 u26 u27 u28 u29 u30 u31 u32 u33 u34 u35 u36 u37 u38 u39 u40 u41 u42 u43 u44 u45 u46 u47 u48 u49 u50 u51 u52 u53 u54 u55 u56 u57 u58 u59 u60 u61 u62 u63 u64 u65 u66 u67 u68 u69 u70 u71 u72 u73 u74 u75 u76 u77 u78 u79 u80 u81 u82 u83 u84 u85 u86 u87 u88 u89 u90 u91 u92 u93 u94 u95 u96 u97 u98 u99 u100 u101 u102 u103 u104 u105 u106 u107 u108 u109 u110 u111 u112 u113 u114 u115 u116 u117 u118 u119 u120 u121 u122 u123 u124 u125 u126 u127 u128 u129 u130 u131 u132 u133 u134 u135 u136 u137 u138 u139 : Value} (hp : w.heap[p]? = some (.cells #[.slice aT nT cT, .slice aK nK cK, .bool an, .bool tl, .int .i64 (nc : Int), .slice aP nP cP] 35 (0, 0))) (hnc : nc ≤ 12) :
    (rfRg 4).wp Tryf.prog (RgPost2 (fun a w' => ∃ (mb ca ea : Nat) (g22 g23 g24 g25 g26 g27 g28 g29 g30 g31 g32 g33 g34 g35 g36 g37 g38 g39 g40 g41 g42 g43 g44 : Value), a = { tmps := #[.pointer (some ⟨p, 0, none⟩), .slice sa n scap, u2, u3, u4, u5, u6, u7, u8, u9, u10, .pointer (some ⟨mb, 0, none⟩), u12, u13, u14, u15, u16, u17, u18, u19, u20, u21, g22, g23, g24, g25, g26, g27, g28, g29, g30, g31, g32, g33, g34, g35, g36, g37, g38, g39, g40, g41, g42, g43, g44, u45, u46, u47, u48, u49, u50, u51, u52, u53, u54, u55, u56, u57, u58, u59, u60, u61, u62, u63, u64, u65, u66, u67, u68, u69, u70, u71, u72, u73, u74, u75, u76, u77, u78, u79, u80, u81, u82, u83, u84, u85, u86, u87, u88, u89, u90, u91, u92, u93, u94, u95, u96, u97, u98, u99, u100, u101, u102, u103, u104, u105, u106, u107, u108, u109, u110, u111, u112, u113, u114, u115, u116, u117, u118, u119, u120, u121, u122, u123, u124, u125, u126, u127, u128, u129, u130, u131, u132, u133, u134, u135, u136, u137, u138, u139], defers := [] } ∧ w'.heap[mb]? = some (.cells #[.slice sa n scap, .slice aK nK cK, .slice (some ⟨ca, 0, none⟩) (nc + 1) (nc + 1), .slice (some ⟨ea, 0, none⟩) (nc + 1) (nc + 1), .bool tl] 64 (0, 0)) ∧ w'.ownsRow w.heap.size 3 1 (.slice (some ⟨ca, 0, none⟩) (nc + 1) (nc + 1)) (nc + 1) (ints (List.replicate (nc + 1) 0)) ∧ w'.ownsRow w.heap.size 3 1 (.slice (some ⟨ea, 0, none⟩) (nc + 1) (nc + 1)) (nc + 1) (ints (List.replicate (nc + 1) 0)) ∧ ca ≠ ea ∧ Below w.heap.size w w')) { tmps := #[.pointer (some ⟨p, 0, none⟩), .slice sa n scap, u2, u3, u4, u5, u6, u7, u8, u9, u10, u11, u12, u13, u14, u15, u16, u17, u18, u19, u20, u21, u22, u23, u24, u25, u26, u27, u28, u29, u30, u31, u32, u33, u34, u35, u36, u37, u38, u39, u40, u41, u42, u43, u44, u45, u46, u47, u48, u49, u50, u51, u52, u53, u54, u55, u56, u57, u58, u59, u60, u61, u62, u63, u64, u65, u66, u67, u68, u69, u70, u71, u72, u73, u74, u75, u76, u77, u78, u79, u80, u81, u82, u83, u84, u85, u86, u87, u88, u89, u90, u91, u92, u93, u94, u95, u96, u97, u98, u99, u100, u101, u102, u103, u104, u105, u106, u107, u108, u109, u110, u111, u112, u113, u114, u115, u116, u117, u118, u119, u120, u121, u122, u123, u124, u125, u126, u127, u128, u129, u130, u131, u132, u133, u134, u135, u136, u137, u138, u139], defers := [] } w := by
  have k1 := blk_cell hp 1 _ rfl
  have k3 := blk_cell hp 3 _ rfl
  have k4 := blk_cell hp 4 _ rfl
  have wn : IntKind.i64.wrap ((nc : Int) + 1) = (nc : Int) + 1 := by rw [IntWalk.i64_in _ (by omega)]
  have hmk : ∀ W : World, (Instr.makeSlice 37 (.int .i64 ((nc : Int) + 1)) (.int .i64 ((nc : Int) + 1))).run Tryf.prog W = .ok (.slice (some ⟨W.heap.size, 0, none⟩) (nc + 1) (nc + 1)) (W.alloc (.cells (madeCells #[.int .i64 0] (nc + 1)) 3)) := fun W => by
    have h := run_make_row' (P := Tryf.prog) 37 3 (.int .i64 0) 8 Tryf.underlying37 int_info rfl .i64 .i64 (nc + 1) (by omega) (by omega) W
    rw [show ((nc + 1 : Nat) : Int) = (nc : Int) + 1 by omega] at h
    exact h
  have HA1 : Hid (∀ o1 o2 o3, (((w.alloc o1).alloc o2).alloc o3).drew.cell? ⟨p, 1, none⟩ = some (.slice aK nK cK)) := Lib.hid (fun o1 o2 o3 => blk_cell (blk_drew (blk_alloc (blk_alloc (blk_alloc hp o1) o2) o3)) 1 _ rfl)
  have HA3 : Hid (∀ o1 o2 o3, (((w.alloc o1).alloc o2).alloc o3).drew.cell? ⟨p, 3, none⟩ = some (.bool tl)) := Lib.hid (fun o1 o2 o3 => blk_cell (blk_drew (blk_alloc (blk_alloc (blk_alloc hp o1) o2) o3)) 3 _ rfl)
  have HA4 : Hid (∀ o1 o2 o3, (((w.alloc o1).alloc o2).alloc o3).drew.cell? ⟨p, 4, none⟩ = some (.int .i64 (nc : Int))) := Lib.hid (fun o1 o2 o3 => blk_cell (blk_drew (blk_alloc (blk_alloc (blk_alloc hp o1) o2) o3)) 4 _ rfl)
  clear hp
  conv => arg 2; whnf
  go_region_held3 (fun w' => w'.cell? ⟨p, 1, none⟩ = some (.slice aK nK cK) ∧ w'.cell? ⟨p, 3, none⟩ = some (.bool tl) ∧ w'.cell? ⟨p, 4, none⟩ = some (.int .i64 (nc : Int))) (first | (go_keep; done) | exact ⟨HA1.out _ _ _, HA3.out _ _ _, HA4.out _ _ _⟩) (fail)
  all_goals first
    | exact ⟨_, _, _, _, _, _, _, _, _, _, _, _, _, _, _, _, _, _, _, _, _, _, _, _, _, _, rfl, rg4_fin w _ _ _ _ _ (.inl ⟨rfl, rfl⟩) hnc⟩
    | exact ⟨_, _, _, _, _, _, _, _, _, _, _, _, _, _, _, _, _, _, _, _, _, _, _, _, _, _, rfl, rg4_fin w _ _ _ _ _ (.inr ⟨rfl, rfl⟩) hnc⟩


theorem mt_info : (Tryf.prog.info? 39).map (fun i => (i.zero, i.size, i.bytes)) = some (some (.agg #[.slice none 0 0, .slice none 0 0]), 2, 48) := by kernel_rfl
theorem XS.rowB2 {w : World} {B xb mb ca ea nc : Nat} {m0 m1 m4 : Value} {st : St} {a1 : Option Addr} {c1 : Nat} {l1 : List Nat} {a2 : Option Addr} {c2 : Nat} {l2 : List Bool} (h : XS w B xb mb ca ea nc m0 m1 m4 st a1 c1 l1 a2 c2 l2) : ∀ g, blkOf a2 = some g → B ≤ g := fun g hg => (owns_lt h.o2 g hg).1
theorem tk_base {w : World} {B : Nat} {t : Tk} {xs : List Value} (h : TkAt w B t xs) : TkAt w 0 t xs := by
  cases h with
  | cls h => exact .cls (ck_base h (Nat.zero_le _))
  | opn => exact .opn
  | clo => exact .clo
  | pos => exact .pos
  | ref => exact .ref
  | brc => exact .brc
theorem tks_base {w : World} {B : Nat} {ts : List Tk} {xs : List Value} (h : TksAt w B ts xs) : TksAt w 0 ts xs := by
  induction h with
  | nil => exact .nil
  | cons h _ ih => exact .cons (tk_base h) ih
theorem ref_end {len nc : Nat} {ps : List Bool} {res : Nat → Rs} {limit : Int} {anch : Bool} {sp : Nat} {acc : List Mt} (h : len < sp) : refLoop len nc ps res limit anch sp acc = acc := by unfold refLoop; rw [if_pos h]
theorem ref_no {len nc : Nat} {ps : List Bool} {res : Nat → Rs} {limit : Int} {anch : Bool} {sp : Nat} {acc : List Mt} {st : St} (h : ¬ len < sp) (hr : res sp = (none, st)) : refLoop len nc ps res limit anch sp acc = if (acc.length : Int) = limit ∨ anch = true then acc else refLoop len nc ps res limit anch (sp + 1) acc := by
  conv => lhs; unfold refLoop
  rw [if_neg h, hr]
theorem ref_yes {len nc : Nat} {ps : List Bool} {res : Nat → Rs} {limit : Int} {anch : Bool} {sp e : Nat} {acc : List Mt} {st : St} (h : ¬ len < sp) (hr : res sp = (some e, st)) : refLoop len nc ps res limit anch sp acc = if ((acc.length + 1 : Nat) : Int) = limit ∨ anch = true then acc ++ [mtOf nc ps sp e st] else refLoop len nc ps res limit anch (max (sp + 1) e) (acc ++ [mtOf nc ps sp e st]) := by
  conv => lhs; unfold refLoop
  rw [if_neg h, hr]
theorem ord_start (nc sp : Nat) : Ord nc ⟨[], [], []⟩ sp (List.replicate (nc + 1) 0, List.replicate (nc + 1) 0) := ⟨by simp, by simp, (fun n hn => (by cases hn)), (fun n hn => (by cases hn))⟩
theorem row_belowX {w w' : World} {sa : Option Addr} {src : List Int} (h : RowInt .u8 w sa src) (hb : 0 < src.length → ∀ x, sa = some x → x.block < w.heap.size) (hbel : Below w.heap.size w w') : RowInt .u8 w' sa src := fun h0 => by
  obtain ⟨sb, so, e, hc⟩ := h h0
  exact ⟨sb, so, e, fun j hj => (World.cell?_of_block (hbel.block sb (hb h0 _ e))).trans (hc j hj)⟩
theorem att_le {f : Nat → St → Rs} {n L : Nat} (hf : ∀ i, i ≤ n → ∀ st t st', f i st = (some t, st') → t ≤ L) : ∀ (j : Nat) (st st' : St) (t : Nat), att f n j st = (some t, st') → t ≤ L
  | 0, st, st', t, h => hf n (Nat.le_refl _) _ _ _ h
  | j + 1, st, st', t, h => by
    unfold att at h
    cases hr : att f n j st with
    | mk o st1 =>
      rw [hr] at h
      cases o with
      | none => exact hf _ (Nat.sub_le _ _) _ _ _ h
      | some r =>
        injection h with h1 h2
        injection h1 with h1
        subst h1
        exact att_le hf j st st1 r hr
theorem upw_le {f : Nat → St → Rs} {one : Nat → Bool} {L : Nat} (hf : ∀ x, x ≤ L → ∀ st t st', f x st = (some t, st') → t ≤ L) : ∀ (k s : Nat) (st st' : St) (t : Nat), s + k ≤ L → upw f one k s st = (some t, st') → t ≤ L
  | 0, s, st, st', t, hs, h => hf s (by omega) _ _ _ h
  | k + 1, s, st, st', t, hs, h => by
    unfold upw at h
    cases hr : f s st with
    | mk o st1 =>
      rw [hr] at h
      cases o with
      | none =>
        simp only at h
        split at h
        · exact upw_le hf k (s + 1) _ _ _ (by omega) h
        · cases h
      | some r =>
        injection h with h1 h2
        injection h1 with h1
        subst h1
        exact hf s (by omega) _ _ _ hr
theorem mt_le {src : List Int} {tl : Bool} : ∀ (ts : List Tk) (s : Nat) (st st' : St) (t : Nat), mt src tl ts s st = (some t, st') → s ≤ src.length → t ≤ src.length
  | [], s, st, st', t, h, hs => by
    unfold mt at h
    split at h
    · cases h
    · injection h with h1 h2; injection h1 with h1; omega
  | .cls k q :: ts, s, st, st', t, h, hs => by
    have ih : ∀ (s : Nat) (st st' : St) (t : Nat), mt src tl ts s st = (some t, st') → s ≤ src.length → t ≤ src.length := fun s st st' t => mt_le ts s st st' t
    rw [mt] at h
    by_cases hq : q = 42 ∨ q = 43
    · rw [if_pos hq] at h
      by_cases hr : runL (oneAt src k) (src.length - s) s < (if q = 43 then 1 else 0)
      · rw [if_pos hr] at h; cases h
      · rw [if_neg hr] at h
        have hn := run_le (one := oneAt src k) (src.length - s) s
        exact att_le (fun i hi st t st' h => ih _ _ _ _ h (by omega)) _ _ _ _ h
    · rw [if_neg hq] at h
      by_cases h45 : q = 45
      · rw [if_pos h45] at h
        exact upw_le (fun x hx st t st' h => ih _ _ _ _ h hx) _ _ _ _ _ (by omega) h
      · rw [if_neg h45] at h
        by_cases h63 : q = 63
        · rw [if_pos h63] at h
          by_cases ho : oneAt src k s = true
          · rw [if_pos ho] at h
            have hlt := (oneAt_iff.1 ho).1
            cases hr : mt src tl ts (s + 1) st with
            | mk o st1 =>
              rw [hr] at h
              cases o with
              | none => exact ih _ _ _ _ h hs
              | some r =>
                injection h with h1 h2
                injection h1 with h1
                subst h1
                exact ih _ _ _ _ hr (by omega)
          · rw [if_neg ho] at h; exact ih _ _ _ _ h hs
        · rw [if_neg h63] at h
          by_cases ho : oneAt src k s = true
          · rw [if_pos ho] at h; exact ih _ _ _ _ h (by have := (oneAt_iff.1 ho).1; omega)
          · rw [if_neg ho] at h; cases h
  | .opn n :: ts, s, st, st', t, h, hs => by rw [mt] at h; exact mt_le ts _ _ _ _ h hs
  | .clo n :: ts, s, st, st', t, h, hs => by rw [mt] at h; exact mt_le ts _ _ _ _ h hs
  | .pos n :: ts, s, st, st', t, h, hs => by rw [mt] at h; exact mt_le ts _ _ _ _ h hs
  | .ref n :: ts, s, st, st', t, h, hs => by
    rw [mt] at h
    split at h
    · rename_i hc; exact mt_le ts _ _ _ _ h hc.1
    · cases h
  | .brc x y :: ts, s, st, st', t, h, hs => by
    rw [mt] at h
    split at h
    · cases hb : braceRun src x y (s + 1) 1 with
      | none => rw [hb] at h; cases h
      | some s' => rw [hb] at h; exact mt_le ts _ _ _ _ h (brace_le _ _ _ _ rfl hb)
    · cases h
/-- What the reference's search gives. -/
def RefPost (w : World) (R : List Mt) (e : Ending) (w' : World) : Prop :=
  ∃ g cap vs, e = .returned (.slice (some ⟨g, 0, none⟩) R.length cap) ∧ w'.ownsRow w.heap.size 39 2 (.slice (some ⟨g, 0, none⟩) R.length cap) R.length vs ∧ OutAt (fun k => k < w.heap.size) w' R vs ∧ Below w.heap.size w w'
theorem ref_done {w wr : World} {R ms : List Mt} {g cap : Nat} {vs : List Value} (ho : wr.ownsRow w.heap.size 39 2 (.slice (some ⟨g, 0, none⟩) ms.length cap) ms.length vs) (hm : OutAt (fun k => k < w.heap.size ∨ k = g) wr ms vs) (hb : Below w.heap.size w wr) (hR : ms = R) : RefPost w R (.returned (.slice (some ⟨g, 0, none⟩) ms.length cap)) wr := by
  subst hR
  exact ⟨g, cap, vs, rfl, ho, hm.kept (fun _ _ _ h => h) (fun k _ hk => .inl hk), hb⟩
/-- A match told: pushed. -/
theorem ref_push {wr w6 w8 : World} {B g g1 cap : Nat} {ms : List Mt} {vs : List Value} {a1 a2 : Option Addr} {c1 c2 : Nat} {l1 : List Nat} {l2 : List Bool} (hB : B ≤ wr.heap.size) (ho : wr.ownsRow B 39 2 (.slice (some ⟨g, 0, none⟩) ms.length cap) ms.length vs) (hm : OutAt (fun k => k < B ∨ k = g) wr ms vs) (hb : Below wr.heap.size wr w6)
    (h1 : w6.ownsRow wr.heap.size 3 1 (.slice a1 l1.length c1) l1.length (ints l1)) (h2 : w6.ownsRow wr.heap.size 4 1 (.slice a2 l2.length c2) l2.length (bools l2)) (hk : ∀ k o, k ≠ g → w6.heap[k]? = some o → w8.heap[k]? = some o) (hat : g1 = g ∨ w6.heap.size ≤ g1) :
    OutAt (fun k => k < B ∨ k = g1) w8 (ms ++ [(l1, l2)]) (vs ++ [.slice a1 l1.length c1, .slice a2 l2.length c2]) := by
  have hg := owns_lt ho g rfl
  have hs6 := hb.size
  have h6 : OutAt (fun k => k < B ∨ k = g) w6 ms vs := hm.kept (fun k o _ h => (hb.block k (blk_lt h)).trans h) (fun _ _ h => h)
  refine (h6.kept (Y := fun k => k < B ∨ k = g1) (fun k o hx h => hk k o (fun e => hx (.inr e)) h) (fun k hk1 hy => ?_)).append ?_
  · rcases hy with hy | hy
    · exact .inl hy
    · rcases hat with h | h
      · exact .inr (hy.trans h)
      · omega
  · refine .cons (owns_kept (owns_base h1 (Nat.zero_le _)) (fun x o hx h => hk x o (fun e => ?_) h)) (owns_kept (owns_base h2 (Nat.zero_le _)) (fun x o hx h => hk x o (fun e => ?_) h)) (fun x hx hy => ?_) (fun x hx hy => ?_) .nil
    · have := (owns_lt h1 x hx).1; omega
    · have := (owns_lt h2 x hx).1; omega
    · have h3 := owns_lt h1 x hx
      rcases hat with h | h <;> omega
    · have h3 := owns_lt h2 x hx
      rcases hat with h | h <;> omega
theorem xs_start {w5 : World} {B mb ca ea nc : Nat} {sa : Option Addr} {scap : Nat} {src : List Int} {aK : Option Addr} {cK : Nat} {ts : List Tk} {ks : List Value} {tl : Bool} {st2 : St} (h : MM w5 B mb ca ea nc sa scap src aK cK ts ks tl st2) (hB : B ≤ w5.heap.size) (sp t : Nat) :
    XS (((w5.alloc (.cells #[.int .i64 (sp : Int), .int .i64 (t : Int)] 3)).alloc (.cells #[.bool false, .bool false] 4)).alloc (.cells #[.slice (some ⟨w5.heap.size, 0, none⟩) 2 2, .slice (some ⟨w5.heap.size + 1, 0, none⟩) 2 2] 39)) B (w5.heap.size + 1 + 1) mb ca ea nc (.slice sa src.length scap) (.slice aK ts.length cK) (.bool tl) st2 (some ⟨w5.heap.size, 0, none⟩) 2 [sp, t] (some ⟨w5.heap.size + 1, 0, none⟩) 2 [false, false] := by
  have s1 : (w5.alloc (.cells #[.int .i64 (sp : Int), .int .i64 (t : Int)] 3)).heap.size = w5.heap.size + 1 := by simp
  have s2 : ((w5.alloc (.cells #[.int .i64 (sp : Int), .int .i64 (t : Int)] 3)).alloc (.cells #[.bool false, .bool false] 4)).heap.size = w5.heap.size + 1 + 1 := by simp
  have r1 := World.ownsRow_lit (e := 3) (size := 1) w5 #[.int .i64 (sp : Int), .int .i64 (t : Int)] (base := B) 2 hB (by unfold maxLen; omega) rfl
  have r2 := World.ownsRow_lit (e := 4) (size := 1) (w5.alloc (.cells #[.int .i64 (sp : Int), .int .i64 (t : Int)] 3)) #[.bool false, .bool false] (base := B) 2 (by rw [s1]; omega) (by unfold maxLen; omega) rfl
  rw [s1] at r2
  have hb : Below w5.heap.size w5 (((w5.alloc (.cells #[.int .i64 (sp : Int), .int .i64 (t : Int)] 3)).alloc (.cells #[.bool false, .bool false] 4)).alloc (.cells #[.slice (some ⟨w5.heap.size, 0, none⟩) 2 2, .slice (some ⟨w5.heap.size + 1, 0, none⟩) 2 2] 39)) := (((Below.refl _ _).alloc (Nat.le_refl _) _).alloc (by simp) _).alloc (by simp; omega) _
  have hm := h.below hb
  have hx := blk_new ((w5.alloc (.cells #[.int .i64 (sp : Int), .int .i64 (t : Int)] 3)).alloc (.cells #[.bool false, .bool false] 4)) (.cells #[.slice (some ⟨w5.heap.size, 0, none⟩) 2 2, .slice (some ⟨w5.heap.size + 1, 0, none⟩) 2 2] 39)
  rw [s2] at hx
  refine ⟨hx, (r1.alloc _).alloc _, r2.alloc _, hm.blk, hm.co, hm.eo, ?_, ?_, by omega, Nat.le_trans hB hb.size⟩
  · have := h.caB.2; simp [blkOf]; omega
  · have := h.eaB.2; simp [blkOf]; omega
set_option maxRecDepth 1000000 in
set_option maxHeartbeats 40000000 in
theorem ref_any {w : World} {B p nc off : Nat} {an tl : Bool} {txt : List Int} {ts : List Tk} {ps : List Bool} {aT aK aP : Option Addr} {cT cK cP : Nat} {ks : List Value} {sa : Option Addr} {scap : Nat} {src : List Int} (limit : Int) (hp : PatAt w B p an tl nc txt ts ps aT aK aP cT cK cP ks) (hnc : nc ≤ 12) (hpl : ps.length = nc + 1) (htl : ts.length ≤ 1048576) (hlin : Lin nc ⟨[], [], []⟩ ts)
    (hsrc : RowInt .u8 w sa src) (hsb : 0 < src.length → ∀ x, sa = some x → x.block < w.heap.size) (hby : ∀ z, z ∈ src → 0 ≤ z ∧ z ≤ 255) (hlen : src.length ≤ 65536) (hoff : off ≤ 9223372036854775807) :
    Calls Tryf.prog 6 #[.pointer (some ⟨p, 0, none⟩), .slice sa src.length scap, .int .i64 (off : Int), .int .i64 limit] w (RefPost w (refLoop src.length nc ps (fun sp => mt src tl ts sp (List.replicate (nc + 1) 0, List.replicate (nc + 1) 0)) limit an off [])) := by
  obtain ⟨ib, hib, hb0, hb1, hb2⟩ := info_parts bool_info
  obtain ⟨im, him, hm0, hm1, hm2⟩ := info_parts mt_info
  have HP := Lib.hid hp
  have HLIN := Lib.hid hlin
  have HSRC := Lib.hid hsrc
  have HSB := Lib.hid hsb
  have HBY := Lib.hid hby
  have HPL := Lib.hid hpl
  obtain ⟨R, hR⟩ : ∃ R, refLoop src.length nc ps (fun sp => mt src tl ts sp (List.replicate (nc + 1) 0, List.replicate (nc + 1) 0)) limit an off [] = R := ⟨_, rfl⟩
  rw [hR]
  have HR := Lib.hid hR
  have HPW := Lib.hid (blk_lt hp.blk)
  clear hp hlin hsrc hsb hby hpl hR
  go_enter Tryf.func6, Tryf.ntmps6
  go_wp2_with fail
  go_loopg [9, 10] (src.length + 1 - off) (fun gk v9 v10 wr => ∃ (sp : Nat) (ms : List Mt) (g cap : Nat) (vs : List Value), gk = src.length + 1 - sp ∧ v9 = .slice (some ⟨g, 0, none⟩) ms.length cap ∧ v10 = .int .i64 (sp : Int) ∧ ms.length ≤ sp ∧ sp ≤ 9223372036854775807 ∧ Hid (wr.ownsRow w.heap.size 39 2 (.slice (some ⟨g, 0, none⟩) ms.length cap) ms.length vs) ∧ Hid (OutAt (fun k => k < w.heap.size ∨ k = g) wr ms vs) ∧ Hid (Below w.heap.size w wr) ∧ Hid (refLoop src.length nc ps (fun sp => mt src tl ts sp (List.replicate (nc + 1) 0, List.replicate (nc + 1) 0)) limit an sp ms = R))
  case atStart => exact ⟨off, [], w.heap.size, 0, [], rfl, rfl, rfl, Nat.zero_le _, hoff, Lib.hid (World.ownsRow_lit (e := 39) (size := 2) w #[] 0 (Nat.le_refl _) (Nat.zero_le _) rfl), Lib.hid .nil, Lib.hid ((Below.refl _ _).alloc (Nat.le_refl _) _), HR⟩
  case round =>
    obtain ⟨sp, ms, g, cap, vs, rfl, rfl, rfl, hms, hspB, HO, HM, HB, HRr⟩ := hrel
    obtain ⟨wA, rfl⟩ : ∃ x, x = wr := ⟨_, rfl⟩
    have hwr := HB.out.size
    by_cases hlt : sp ≤ src.length
    · have tl0 : decide ((sp : Int) ≤ (src.length : Int)) = true := decide_eq_true (by omega)
      have hpb := (HB.out.block p HPW.out).trans HP.out.blk
      have HPB := Lib.hid hpb
      go_upto_region 4 with (fail)
      refine wp_mono (wp_code (c' := rfRg 4) (by kernel_rfl) (rf_rg4 HPB.out hnc)) ?_
      rintro e a' w4 hq
      cases e with
      | normal =>
        obtain ⟨mb, ca, ea, g22, g23, g24, g25, g26, g27, g28, g29, g30, g31, g32, g33, g34, g35, g36, g37, g38, g39, g40, g41, g42, g43, g44, rfl, hm4, hco4, heo4, hne4, hb4⟩ := hq
        have HM4 : Hid (MM w4 wA.heap.size mb ca ea nc sa scap src aK cK ts ks tl (List.replicate (nc + 1) 0, List.replicate (nc + 1) 0)) := Lib.hid
          { blk := hm4, co := hco4, eo := heo4, ne := hne4,
            srcR := (row_belowX HSRC.out HSB.out (HB.out.trans (hb4.mono hwr)))
            srcB := fun h0 x hx => Nat.lt_of_lt_of_le (HSB.out h0 x hx) hwr
            own := owns_kept (owns_base HP.out.ownK (Nat.zero_le _)) (fun q o _ ho => ((HB.out.trans (hb4.mono hwr)).block q (blk_lt ho)).trans ho)
            toks := (tks_base HP.out.toks).kept (fun q cs r _ hq => ((HB.out.trans (hb4.mono hwr)).block q (blk_lt hq)).trans hq) }
        have HB4 := Lib.hid hb4
        have hs4 := hb4.size
        clear hm4 hco4 heo4 hne4 hb4
        have hmatch := match_step (s := sp) (pre := []) (post := ts) HBY.out (by omega) htl (by omega) (match_all HBY.out (by omega) htl (by omega) ts.length 0 (by omega)) HM4.out rfl hlt HLIN.out (ord_start nc sp)
        have HMT : Hid (Calls Tryf.prog 16 #[.pointer (some ⟨mb, 0, none⟩), .int .i64 (sp : Int), .int .i64 0] w4 (MPost w4 wA.heap.size mb ca ea nc sa scap src aK cK ts ks tl (mt src tl ts sp (List.replicate (nc + 1) 0, List.replicate (nc + 1) 0)))) := Lib.hid hmatch
        clear hmatch
        generalize hmr : mt src tl ts sp (List.replicate (nc + 1) 0, List.replicate (nc + 1) 0) = mr at HMT
        have HMR := Lib.hid hmr
        clear hmr
        obtain ⟨_ | t, st2⟩ := mr
        · have HRN := Lib.hid (HRr.out.symm.trans (ref_no (by omega) HMR.out))
          go_wp2_with fail
          refine (HMT.out.mono (fun _ _ h => mpost_no h)).mono ?_
          rintro e w5 ⟨rfl, hm5, hk5⟩
          have hb5 := HB4.out.trans (hk5.below hm5.caB.1 hm5.eaB.1 hs4)
          have HB5 := Lib.hid (HB.out.trans (hb5.mono hwr))
          have HO5 := Lib.hid (owns_kept HO.out (fun q o _ ho => (hb5.block q (blk_lt ho)).trans ho))
          have HM5 : Hid (OutAt (fun k => k < w.heap.size ∨ k = g) w5 ms vs) := Lib.hid (HM.out.kept (fun k o _ h => (hb5.block k (blk_lt h)).trans h) (fun k _ hk => hk))
          have hp5 := (hb5.block p (blk_lt HPB.out)).trans HPB.out
          have k2 := blk_cell hp5 2 _ rfl
          clear hm5 hk5 hb5 hp5
          by_cases hlim : ((ms.length : Nat) : Int) = limit
          · have te : ((ms.length : Int) == limit) = true := by rw [beq_iff_eq]; exact hlim
            have HR2 : Hid (ms = R) := Lib.hid (by rw [HRN.out, if_pos (.inl hlim)])
            clear hlim
            go_wp2_with fail
            go_ret
            exact ref_done HO5.out HM5.out HB5.out HR2.out
          · have te : ((ms.length : Int) == limit) = false := by rw [beq_eq_false_iff_ne]; exact hlim
            cases an with
            | true =>
              have HR2 : Hid (ms = R) := Lib.hid (by rw [HRN.out, if_pos (.inr rfl)])
              clear hlim
              go_wp2_with fail
              go_ret
              exact ref_done HO5.out HM5.out HB5.out HR2.out
            | false =>
              have HR2 : Hid (refLoop src.length nc ps (fun sp => mt src tl ts sp (List.replicate (nc + 1) 0, List.replicate (nc + 1) 0)) limit false (sp + 1) ms = R) := Lib.hid (by rw [HRN.out, if_neg (by simp [hlim])])
              clear hlim
              go_wp2_with fail
              go_roundg (src.length + 1 - (sp + 1))
              case measure => omega
              case rel => exact ⟨sp + 1, ms, g, cap, vs, rfl, rfl, by first | rfl | (congr 1; omega), by omega, by omega, HO5, HM5, HB5, HR2⟩
        · have HRY := Lib.hid (HRr.out.symm.trans (ref_yes (by omega) HMR.out))
          have HTB : Hid (t ≤ src.length) := Lib.hid (mt_le _ _ _ _ _ HMR.out hlt)
          have tt : decide ((0 : Int) ≤ (t : Int)) = true := decide_eq_true (by omega)
          go_wp2_with fail
          refine (HMT.out.mono (fun _ _ h => mpost_yes h)).mono ?_
          rintro e w5 ⟨rfl, hm5, hk5⟩
          have hb5 := HB4.out.trans (hk5.below hm5.caB.1 hm5.eaB.1 hs4)
          have HB5 := Lib.hid hb5
          have HMM5 := Lib.hid hm5
          have hs5 := hb5.size
          clear hm5 hk5 hb5
          obtain ⟨nx, hnx⟩ : ∃ nx, max (sp + 1) t = nx := ⟨_, rfl⟩
          rw [hnx] at HRY
          go_upto_if 54 with (fail)
          go_cut [13] (fun v13 wc => v13 = .int .i64 (nx : Int) ∧ wc = w5)
          case first =>
            by_cases hn : sp + 1 < t
            · have tn : decide ((sp : Int) + 1 < (t : Int)) = true := decide_eq_true (by omega)
              go_wp2_with fail
              go_meet
              case rel => exact ⟨by congr 1; omega, rfl⟩
            · have tn : decide ((sp : Int) + 1 < (t : Int)) = false := decide_eq_false (by omega)
              go_wp2_with fail
              go_meet
              case rel => exact ⟨by congr 1; omega, rfl⟩
          obtain ⟨rfl, rfl⟩ := hcut
          have hnx1 : sp + 1 ≤ nx := by omega
          have hnx2 : nx ≤ 9223372036854775807 := by have := HTB.out; omega
          go_upto_region 11 with (fail)
          have HX0 := Lib.hid (xs_start HMM5.out hs5 sp t)
          have HBX0 : Hid (Below wA.heap.size wA (((wc.alloc (.cells #[.int .i64 (sp : Int), .int .i64 (t : Int)] 3)).alloc (.cells #[.bool false, .bool false] 4)).alloc (.cells #[.slice (some ⟨wc.heap.size, 0, none⟩) 2 2, .slice (some ⟨wc.heap.size + 1, 0, none⟩) 2 2] 39))) := Lib.hid (((HB5.out.alloc hs5 _).alloc (by simp; omega) _).alloc (by simp; omega) _)
          obtain ⟨xb, hxb⟩ : ∃ xb, wc.heap.size + 1 + 1 = xb := ⟨_, rfl⟩
          rw [hxb] at HX0 ⊢
          generalize ((wc.alloc (.cells #[.int .i64 (sp : Int), .int .i64 (t : Int)] 3)).alloc (.cells #[.bool false, .bool false] 4)).alloc (.cells #[.slice (some ⟨wc.heap.size, 0, none⟩) 2 2, .slice (some ⟨wc.heap.size + 1, 0, none⟩) 2 2] 39) = w6 at *
          clear hxb HMM5 HB5 HMT HMR hs5 hs4 HB4 HM4
          go_wp2_with fail
          go_loopg [15] nc (fun g2 v15 wr => ∃ (k : Nat) (a1 : Option Addr) (c1 : Nat) (l1 : List Nat) (a2 : Option Addr) (c2 : Nat) (l2 : List Bool), g2 = nc - k ∧ k ≤ nc ∧ v15 = .int .i64 ((k : Int) + 1) ∧ Hid (l1.length = 2 + 2 * k) ∧ Hid (l2.length = 2 + 2 * k) ∧ Hid (l1 = [sp, t] ++ capsTo ps st2 k) ∧ Hid (l2 = [false, false] ++ flagsTo ps k) ∧ Hid (XS wr wA.heap.size xb mb ca ea nc (.slice sa src.length scap) (.slice aK ts.length cK) (.bool tl) st2 a1 c1 l1 a2 c2 l2) ∧ Hid (Below wA.heap.size wA wr))
          case atStart => exact ⟨0, _, _, _, _, _, _, rfl, Nat.zero_le _, rfl, Lib.hid rfl, Lib.hid rfl, Lib.hid rfl, Lib.hid rfl, HX0, HBX0⟩
          case round =>
            obtain ⟨k, a1, c1, l1, a2, c2, l2, rfl, hk, rfl, HLL, HFL, HL1, HL2, HX, HBx⟩ := hrel
            have hpx := (HBx.out.block p (blk_lt HPB.out)).trans HPB.out
            have HPX := Lib.hid hpx
            have k4 := blk_cell hpx 4 _ rfl
            have k5 := blk_cell hpx 5 _ rfl
            clear hpx
            by_cases hkn : k < nc
            · have tk : decide ((k : Int) + 1 ≤ (nc : Int)) = true := decide_eq_true (by omega)
              have hpl2 := HPL.out
              obtain ⟨gp, hgp⟩ := row_some HP.out.ownP (by omega)
              rw [hgp] at k5
              have kp : wr.cell? ⟨gp, k + 1, none⟩ = some (.bool (ps.getD (k + 1) false)) := by
                have h0 := HP.out.ownP
                rw [hgp] at h0
                refine ((HB.out.trans (HBx.out.mono hwr)).cell (p := ⟨gp, k + 1, none⟩) (owns_lt h0 gp rfl).2).trans ((h0.cellAt (k + 1) (by omega)).trans ?_)
                have hlt2 : k + 1 < ps.length := by omega
                simp [bools, List.getD_eq_getElem?_getD, List.getElem?_eq_getElem hlt2]
              have hki : (k : Int) + 1 < (ps.length : Int) := by omega
              have wk : IntKind.i64.wrap ((k : Int) + 1) = (k : Int) + 1 := by rw [IntWalk.i64_in _ (by omega)]
              have tnk : ((k : Int) + 1).toNat = k + 1 := by omega
              have hk0 : (0 : Int) ≤ (k : Int) + 1 := by omega
              clear hgp hpl2
              cases hbk : ps.getD (k + 1) false with
              | true =>
                rw [hbk] at kp
                have HBK := Lib.hid hbk
                clear hbk
                have HB1 : Hid (ps.getD (k + 1) false = true) := HBK
                go_upto_region 15 with (fail)
                refine wp_mono (wp_code (c' := rfRg 15) (by kernel_rfl) (rf_rg15 (k := k + 1) HX.out (by omega) hnc (by rw [HLL.out]; omega))) ?_
                rintro e a' w6 hq
                cases e with
                | normal =>
                  obtain ⟨⟨g76, g77, g78, g79, g80, g81, g82, g83, g84, g85, g86, g87, g88, g89, g90, g91, g92, g93, g94, rfl⟩, hb6, a1', c1', hx6⟩ := hq
                  have HX2 := Lib.hid hx6
                  have HB6 := Lib.hid (HBx.out.trans hb6)
                  have h2l : l2.length ≤ 40 := by rw [HFL.out]; omega
                  have hbs := hx6.Bw
                  have x2 := blk_cell hx6.x 1 _ rfl
                  clear hb6 hx6
                  go_wp2_with (at_builtin; go_loud (refine wpList_push _ rfl (.tmp 96) (.tmp 97) 33 rfl wA.heap.size 4 ib (.bool false) 1 1 Tryf.underlying33 hib hb0 hb1 hb2 rfl (by decide) _ _ _ _ rfl (HX2.out.o2.alloc _) ⟨w6.heap.size, 0, none⟩ 2 2 [.bool true, .bool true] rfl rfl (news_any (by simp)) (by simp [Value.oneCell']) (by decide) (by unfold maxLen; omega) (by omega) (by simp; omega) ?_; intro g1 k1 w8 hown hgrow hwhere; have HO := Lib.hid hown; have HGw := Lib.hid hgrow; have HWh := Lib.hid hwhere; have hx8 := (HX2.out.alloc _).xGrown (.inr HGw.out); have q1 := blk_cell hx8 1 _ rfl; have q2 := blk_free hx8 1; clear hx8; clear hown hgrow hwhere))
                  have eb : bools (l2 ++ [true, true]) = bools l2 ++ [.bool true, .bool true] := by rw [bools_app]; rfl
                  have ho3 := HO.out
                  rw [← eb] at ho3
                  have HX3 := Lib.hid ((HX2.out.alloc _).push2 (l := [true, true]) (by simp) ho3 HGw.out)
                  clear eb ho3
                  have HB7 : Hid (Below wA.heap.size wA (World.setCell w8 ⟨xb, 1, none⟩ (.slice (some ⟨g1, 0, none⟩) (l2.length + 2) k1))) := Lib.hid ((HB6.out.trans ((Below.refl _ _).alloc hbs _)).trans ((one_below_any HGw.out (HX2.out.rowB2) (by simp; omega)).trans ((Below.refl _ _).setCell (p := ⟨xb, 1, none⟩) HX2.out.hx _)))
                  generalize hw9 : World.setCell w8 _ _ = w9 at *
                  clear HO HGw HWh hw9 x2
                  go_roundg (nc - (k + 1))
                  case measure => omega
                  case rel => exact ⟨k + 1, _, _, _, _, _, _, rfl, by omega, by first | rfl | (congr 1; omega), Lib.hid (by rw [List.length_append, HLL.out]; simp; omega), Lib.hid (by rw [List.length_append, HFL.out]; simp; omega), Lib.hid (by rw [HL1.out]; simp only [capsTo, HB1.out]; simp), Lib.hid (by rw [HL2.out]; simp only [flagsTo, HB1.out]; simp), HX3, HB7⟩
                  | goto l => exact hq.elim
                  | exit id => exact hq.elim
                  | ret => exact hq.elim
                  | panic ch => exact hq.elim
                  | outgrown => exact hq.elim
              | false =>
                rw [hbk] at kp
                have HBK := Lib.hid hbk
                clear hbk
                have HB1 : Hid (ps.getD (k + 1) false = false) := HBK
                go_upto_region 17 with (fail)
                refine wp_mono (wp_code (c' := rfRg 17) (by kernel_rfl) (rf_rg17 (k := k + 1) HX.out (by omega) hnc (by rw [HLL.out]; omega))) ?_
                rintro e a' w6 hq
                cases e with
                | normal =>
                  obtain ⟨⟨g100, g101, g102, g103, g104, g105, g106, g107, g108, g109, g110, g111, g112, g113, g114, g115, g116, g117, g118, rfl⟩, hb6, a1', c1', hx6⟩ := hq
                  have HX2 := Lib.hid hx6
                  have HB6 := Lib.hid (HBx.out.trans hb6)
                  have h2l : l2.length ≤ 40 := by rw [HFL.out]; omega
                  have hbs := hx6.Bw
                  have x2 := blk_cell hx6.x 1 _ rfl
                  clear hb6 hx6
                  go_wp2_with (at_builtin; go_loud (refine wpList_push _ rfl (.tmp 120) (.tmp 121) 33 rfl wA.heap.size 4 ib (.bool false) 1 1 Tryf.underlying33 hib hb0 hb1 hb2 rfl (by decide) _ _ _ _ rfl (HX2.out.o2.alloc _) ⟨w6.heap.size, 0, none⟩ 2 2 [.bool false, .bool false] rfl rfl (news_any (by simp)) (by simp [Value.oneCell']) (by decide) (by unfold maxLen; omega) (by omega) (by simp; omega) ?_; intro g1 k1 w8 hown hgrow hwhere; have HO := Lib.hid hown; have HGw := Lib.hid hgrow; have HWh := Lib.hid hwhere; have hx8 := (HX2.out.alloc _).xGrown (.inr HGw.out); have q1 := blk_cell hx8 1 _ rfl; have q2 := blk_free hx8 1; clear hx8; clear hown hgrow hwhere))
                  have eb : bools (l2 ++ [false, false]) = bools l2 ++ [.bool false, .bool false] := by rw [bools_app]; rfl
                  have ho3 := HO.out
                  rw [← eb] at ho3
                  have HX3 := Lib.hid ((HX2.out.alloc _).push2 (l := [false, false]) (by simp) ho3 HGw.out)
                  clear eb ho3
                  have HB7 : Hid (Below wA.heap.size wA (World.setCell w8 ⟨xb, 1, none⟩ (.slice (some ⟨g1, 0, none⟩) (l2.length + 2) k1))) := Lib.hid ((HB6.out.trans ((Below.refl _ _).alloc hbs _)).trans ((one_below_any HGw.out (HX2.out.rowB2) (by simp; omega)).trans ((Below.refl _ _).setCell (p := ⟨xb, 1, none⟩) HX2.out.hx _)))
                  generalize hw9 : World.setCell w8 _ _ = w9 at *
                  clear HO HGw HWh hw9 x2
                  go_roundg (nc - (k + 1))
                  case measure => omega
                  case rel => exact ⟨k + 1, _, _, _, _, _, _, rfl, by omega, by first | rfl | (congr 1; omega), Lib.hid (by rw [List.length_append, HLL.out]; simp; omega), Lib.hid (by rw [List.length_append, HFL.out]; simp; omega), Lib.hid (by rw [HL1.out]; simp only [capsTo, HB1.out]; simp), Lib.hid (by rw [HL2.out]; simp only [flagsTo, HB1.out]; simp), HX3, HB7⟩
                  | goto l => exact hq.elim
                  | exit id => exact hq.elim
                  | ret => exact hq.elim
                  | panic ch => exact hq.elim
                  | outgrown => exact hq.elim
            · obtain rfl : k = nc := by omega
              have tk : decide ((k : Int) + 1 ≤ (k : Int)) = false := decide_eq_false (by omega)
              have kx0 := blk_cell HX.out.x 0 _ rfl
              have kx1 := blk_cell HX.out.x 1 _ rfl
              have HOx := Lib.hid (owns_kept HO.out (fun q o _ ho => (HBx.out.block q (blk_lt ho)).trans ho))
              have hsx := HBx.out.size
              have hgB := (owns_lt HO.out g rfl).1
              have hgL := (owns_lt HO.out g rfl).2
              have hpw := HPW.out
              have HOA := HO
              go_upto_region 20 with (at_builtin; go_loud (refine wpList_push _ rfl (.tmp 124) (.tmp 126) 25 rfl w.heap.size 39 im _ 2 48 Tryf.underlying25 him hm0 hm1 hm2 rfl (by decide) _ _ _ _ rfl (HOx.out.alloc _) ⟨wr.heap.size, 0, none⟩ 1 1 [.slice a1 l1.length c1, .slice a2 l2.length c2] rfl rfl (news_any (by simp)) (by simp [Value.oneCell']) (by decide) (by unfold maxLen; omega) (by omega) (by simp; omega) ?_; intro g1 k1 w8 hown hgrow hwhere; have HO := Lib.hid hown; have HGw := Lib.hid hgrow; have HWh := Lib.hid hwhere; have HO2 := Lib.hid hown; clear hown hgrow hwhere))
              have HPU := Lib.hid (ref_push hwr HOA.out HM.out (HBx.out.alloc hsx _) (HX.out.o1.alloc _) (HX.out.o2.alloc _) (fun q o hq h => blk_grown h HGw.out (fun e => hq (Option.some.inj e))) (HWh.out.imp (fun h => (Option.some.inj h).symm) id))
              have HB8 : Hid (Below w.heap.size w w8) := Lib.hid ((HB.out.trans ((HBx.out.alloc hsx _).mono hwr)).trans (one_below HGw.out hgB (by simp; omega)))
              have hp8 := blk_grown (blk_alloc HPX.out _) HGw.out (fun e => by have e2 : p = g := Option.some.inj e; omega)
              have k2 := blk_cell hp8 2 _ rfl
              have hmt : (l1, l2) = mtOf k ps sp t st2 := by rw [HL1.out, HL2.out]; rfl
              rw [hmt] at HPU
              have HMT2 := Lib.hid hmt
              have hlen1 : (ms ++ [mtOf k ps sp t st2]).length = ms.length + 1 := by simp
              clear hp8 hmt kx0 kx1
              by_cases hlim : ((ms.length + 1 : Nat) : Int) = limit
              · have te : (((ms.length + 1 : Nat) : Int) == limit) = true := by rw [beq_iff_eq]; exact hlim
                have te2 : ((ms.length : Int) + 1 == limit) = true := by rw [beq_iff_eq]; omega
                have HR2 : Hid (ms ++ [mtOf k ps sp t st2] = R) := Lib.hid (by rw [HRY.out, if_pos (.inl hlim)])
                clear hlim
                go_wp2_with fail
                go_ret
                have hd := ref_done (by rw [hlen1]; exact HO2.out) HPU.out HB8.out HR2.out
                rw [hlen1] at hd
                exact hd
              · have te : (((ms.length + 1 : Nat) : Int) == limit) = false := by rw [beq_eq_false_iff_ne]; exact hlim
                have te2 : ((ms.length : Int) + 1 == limit) = false := by rw [beq_eq_false_iff_ne]; omega
                cases an with
                | true =>
                  have HR2 : Hid (ms ++ [mtOf k ps sp t st2] = R) := Lib.hid (by rw [HRY.out, if_pos (.inr rfl)])
                  clear hlim
                  go_wp2_with fail
                  go_ret
                  have hd := ref_done (by rw [hlen1]; exact HO2.out) HPU.out HB8.out HR2.out
                  rw [hlen1] at hd
                  exact hd
                | false =>
                  have HR2 : Hid (refLoop src.length k ps (fun sp => mt src tl ts sp (List.replicate (k + 1) 0, List.replicate (k + 1) 0)) limit false nx (ms ++ [mtOf k ps sp t st2]) = R) := Lib.hid (by rw [HRY.out, if_neg (by simp only [Bool.false_eq_true, or_false]; exact hlim)])
                  clear hlim
                  go_wp2_with fail
                  go_roundg (src.length + 1 - nx)
                  case measure => omega
                  case rel => exact ⟨nx, ms ++ [mtOf k ps sp t st2], g1, k1, _, rfl, by rw [hlen1], rfl, by rw [hlen1]; omega, by omega, Lib.hid (by rw [hlen1]; exact HO2.out), HPU, HB8, HR2⟩
      | goto l => exact hq.elim
      | exit id => exact hq.elim
      | ret => exact hq.elim
      | panic ch => exact hq.elim
      | outgrown => exact hq.elim
    · have tl0 : decide ((sp : Int) ≤ (src.length : Int)) = false := decide_eq_false (by omega)
      have HR2 : Hid (ms = R) := Lib.hid (by rw [← HRr.out, ref_end (by omega)])
      go_wp2_with fail
      go_ret
      exact ref_done HO.out HM.out HB.out HR2.out

end Go.Proofs.YtcfhhcjcnafcjaaFmt
