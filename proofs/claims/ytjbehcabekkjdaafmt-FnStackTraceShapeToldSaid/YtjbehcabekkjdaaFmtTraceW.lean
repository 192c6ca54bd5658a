/-
  The contract of stackTrace. Its condition: a stack and a state as zzBuild lays them, within the laws' bounds.
-/
import Derived.Test.YtjbehcabekkjdaaFmtUnf
import Derived.Test.YtjbehcabekkjdaaFmtShelf
import Derived.Deep.DeepCutAuto
import Derived.Deep.CutRange
namespace Go.Proofs.YtjbehcabekkjdaaFmt
open Go.RowKit Go.Kit
open Go.Extern.Stop Go.Stop Go.Extern
set_option linter.unusedVariables false
set_option linter.unusedSimpArgs false

theorem str_info : (Tryf.prog.info? 9).map (fun i => (i.zero, i.size, i.bytes)) = some (some (.string ⟨#[]⟩), 1, 16) := by kernel_rfl
def vals (L : List ByteArray) : List Value := L.map .string
theorem vals_len (L : List ByteArray) : (vals L).length = L.length := by simp [vals]
theorem vals_app (L M : List ByteArray) : vals (L ++ M) = vals L ++ vals M := by simp [vals]
/-- The row of lines. -/
def Row (w : World) (B : Nat) (ao : Option Addr) (cap : Nat) (L : List ByteArray) : Prop := w.ownsRow B 9 1 (.slice ao L.length cap) L.length (vals L)
theorem where_size {f : Fr} {src : ByteArray} (hs : src.size ≤ 1048576) (hw : (Lit.int .i64 f.line).wf = true) : (whereT f src).size ≤ 1048600 := by
  have hb := bounds_i64 hw
  have hi := itoa_size hb.1 hb.2
  unfold whereT
  split
  · show 4 ≤ 1048600
    omega
  · rw [ByteArray.size_append, ByteArray.size_append, ByteArray.size_append]
    have h1 : (⟨#[58]⟩ : ByteArray).size = 1 := rfl
    omega
theorem fmt_size {r : ByteArray × Bool} (h : r.1.size ≤ 1099511627776) : (fmtOf r).size ≤ 1099511627800 := by
  unfold fmtOf
  split
  · omega
  · split
    · rw [ByteArray.size_append]
      have h1 : preFn.size = 9 := rfl
      omega
    · rw [ByteArray.size_append, ByteArray.size_append]
      have h1 : preFq.size = 10 := rfl
      have h2 : sufQ.size = 1 := rfl
      omega
theorem line_size {fs : List Fr} {k : Nat} {src : ByteArray} {ld : Int} {child : Bool} (hk : k < fs.length) (hn : Names fs src) (hw : (Lit.int .i64 fs[k]!.line).wf = true) (hl : (Lit.int .i64 ld).wf = true) : (lineOf fs k src ld child).size ≤ 1099513676500 := by
  have h1 := where_size (f := fs[k]!) hn.2.1 hw
  have h2 := fmt_size (rawOf_size (child := child) hk hn hn.2.1 hl).2
  have e1 : (whereT fs[k]! src).data.toList.length = (whereT fs[k]! src).size := by simp
  have e2 : (fmtOf (rawOf fs k src ld child)).data.toList.length = (fmtOf (rawOf fs k src ld child)).size := by simp
  show (text5 _ _).toArray.size ≤ _
  simp only [text5, List.size_toArray, List.length_append, List.length_singleton, e1, e2]
  have e3 : ([32, 105, 110, 32] : List UInt8).length = 4 := rfl
  omega
def AllLe (L : List ByteArray) : Prop := ∀ s, s ∈ L → s.size ≤ 1099513676500
theorem lines_le {fs : List Fr} {src : ByteArray} {ld : Int} {child : Bool} (hn : Names fs src) (hw : ∀ i, i < fs.length → (Lit.int .i64 fs[i]!.line).wf = true) (hl : (Lit.int .i64 ld).wf = true) : ∀ j, j ≤ fs.length → AllLe (linesAt fs src ld child j)
  | 0, _ => fun s h => by cases h
  | j + 1, hj => fun s h => by
    unfold linesAt at h
    rw [List.mem_append] at h
    rcases h with h | h
    · unfold blockOf at h
      rw [List.mem_cons] at h
      rcases h with rfl | h
      · exact line_size (by omega) hn (hw j (by omega)) hl
      · rw [List.eq_of_mem_replicate h]
        decide
    · exact lines_le hn hw hl j (by omega) s h
theorem shown_le {fs : List Fr} {src : ByteArray} {ld : Int} {child : Bool} (hn : Names fs src) (hw : ∀ i, i < fs.length → (Lit.int .i64 fs[i]!.line).wf = true) (hl : (Lit.int .i64 ld).wf = true) (level : Int) : AllLe (shownL fs src ld child level) := by
  have ha : AllLe (allLines fs src ld child) := fun s h => by
    unfold allLines at h
    rw [List.mem_append] at h
    rcases h with h | h
    · exact lines_le hn hw hl _ (Nat.le_refl _) s h
    · rw [List.mem_singleton] at h
      subst h
      decide
  unfold shownL cutL
  split
  · intro s hs
    rw [List.mem_append, List.mem_append] at hs
    rcases hs with (hs | hs) | hs
    · exact ha s (List.mem_of_mem_drop (List.mem_of_mem_take hs))
    · rw [List.mem_singleton] at hs
      subst hs
      decide
    · exact ha s (List.mem_of_mem_drop (List.mem_of_mem_drop hs))
  · exact fun s hs => ha s (List.mem_of_mem_drop hs)
theorem sel_some {fs : List Fr} {x : Int} {j : Nat} (h : stackAt fs fs.length x = (j, 0)) : (selO fs x).isSome = decide (0 < j) := by
  cases j with
  | zero => rw [selO_end h]; rfl
  | succ j => rw [selO_succ h]; simp
theorem sel_map {fs : List Fr} {x : Int} {j : Nat} (g : Nat) (h : stackAt fs fs.length x = (j, 0)) : (selO fs x).map (fun k => (⟨g, k * 10, none⟩ : Addr)) = parentOf g j := by
  cases j with
  | zero => rw [selO_end h]; rfl
  | succ j => rw [selO_succ h]; rfl
theorem getAt_any {w : World} {B l c g : Nat} {fs : List Fr} {src : ByteArray} {ld : Int} {child : Bool} (h : Built w B l c g fs src ld child) (x : Int) (hlo : 0 ≤ x) (hhi : x ≤ 1048576) (ht : ∀ i, i < fs.length → 0 ≤ tailF fs[i]! ∧ tailF fs[i]! ≤ 65536) {j : Nat} (hs : stackAt fs fs.length x = (j, 0)) :
    Calls Tryf.prog 37 #[.pointer (some ⟨l, 0, none⟩), .int .i64 x] w fun e w' => ∃ d, e = .returned (.tuple #[.pointer (some ⟨d, 0, none⟩), .bool (decide (0 < j))]) ∧ w'.cell? ⟨d, 0, none⟩ = some (.pointer (parentOf g j)) ∧ Below w.heap.size w w' := by
  refine (get_any h x (by omega) (by omega) ht).mono ?_
  rintro e w' ⟨d, rfl, hd, hb⟩
  rw [sel_some hs]
  rw [sel_map g hs] at hd
  exact ⟨d, rfl, hd, hb⟩
theorem row_lit (w : World) : Row (w.alloc (.cells #[] 9)) w.heap.size (some ⟨w.heap.size, 0, none⟩) 0 [] := World.ownsRow_lit w #[] 0 (Nat.le_refl _) (Nat.zero_le _) rfl
theorem Row.below {w w' : World} {B cap : Nat} {ao : Option Addr} {L : List ByteArray} (h : Row w B ao cap L) (hb : Below w.heap.size w w') : Row w' B ao cap L := by
  refine ⟨h.1, ?_⟩
  rcases h.2 with h2 | ⟨g, c, cur, h1, hB, hg, r⟩
  · exact .inl h2
  · exact .inr ⟨g, c, cur, h1, hB, blk_below hg hb (blk_lt hg), r⟩
theorem news_s {W : World} {v : Value} {T : TypeId} {n : Nat} (h : W.heap.size = n) : ∀ (j : Nat) (u : Value), [v][j]? = some u → (W.alloc (.cells #[v] T)).cell? ((⟨n, 0, none⟩ : Addr).add j) = some u := by
  subst h
  intro j u hj
  rw [addr_add, Nat.zero_add]
  exact blk_cell (blk_new _ _) j _ (by simpa using hj)
theorem news_sd {W : World} {v : Value} {T : TypeId} {n : Nat} (h : W.heap.size = n) : ∀ (j : Nat) (u : Value), [v][j]? = some u → ((W.alloc (.cells #[v] T)).drew).cell? ((⟨n, 0, none⟩ : Addr).add j) = some u := news_s h
theorem below_grown {B : Nat} {a w w1 : World} {row : Option Nat} (h : Below B a w) (hB : B ≤ a.heap.size) (hg : w.grownBy w1 row) (hr : ∀ g, row = some g → B ≤ g) : Below B a w1 :=
  ⟨hg.os.trans h.os, hg.tape.trans h.tape, hg.output.trans h.output, Nat.le_trans h.size hg.size, fun i hi => (hg.block i (Nat.lt_of_lt_of_le hi (Nat.le_trans hB h.size)) (fun e => by have := hr i e.symm; omega)).trans (h.block i hi)⟩
theorem ba_len (s : ByteArray) : s.data.toList.length = s.size := by simp
theorem lineN {fs : List Fr} {src : ByteArray} {ld : Int} {tl : Nat} {child : Bool} (L : List ByteArray) (j : Nat) {LL : List ByteArray} {s1 s2 : ByteArray} (h : L ++ linesAt fs src ld child (j + 1) = LL) (h1 : whereO fs src (some j) = s1) (h2 : fmtOf (rawOf fs j src ld child) = s2) (htl : tailF fs[j]! = (tl : Int)) :
    L.length + 1 + tl ≤ LL.length ∧ blockOf fs j src ld child = ⟨(text5 s1.data.toList s2.data.toList).toArray⟩ :: List.replicate tl tcLine ∧ (L ++ blockOf fs j src ld child) ++ linesAt fs src ld child j = LL := by
  subst h h1 h2
  have e : (tailF fs[j]!).toNat = tl := by rw [htl]; rfl
  refine ⟨?_, by unfold blockOf; rw [e]; rfl, by simp [linesAt]⟩
  simp only [linesAt, List.length_append, block_len]
  omega
theorem trace_step {fs : List Fr} {src : ByteArray} {ld : Int} {child : Bool} {j : Nat} {s1 s2 : ByteArray} (hn : Names fs src) (hw : ∀ i, i < fs.length → (Lit.int .i64 fs[i]!.line).wf = true) (hl : (Lit.int .i64 ld).wf = true) (hj : j < fs.length) (h1 : whereO fs src (some j) = s1) (h2 : fmtOf (rawOf fs j src ld child) = s2) :
    s1.size ≤ 1048600 ∧ s2.size ≤ 1099511627800 := by
  subst h1 h2
  exact ⟨where_size hn.2.1 (hw j hj), fmt_size (rawOf_size (child := child) hj hn hn.2.1 hl).2⟩
theorem row_snoc {w : World} {B c : Nat} {a : Option Addr} {L : List ByteArray} {x y : ByteArray} (h : w.ownsRow B 9 1 (.slice a (L.length + 1) c) (L.length + 1) (vals L ++ [.string x])) (hx : x = y) : Row w B a c (L ++ [y]) := by
  subst hx
  unfold Row
  rw [List.length_append, List.length_singleton, vals_app]
  exact h
theorem rep_snoc (L : List ByteArray) (t : Nat) (x : ByteArray) : (L ++ List.replicate t x) ++ [x] = L ++ List.replicate (t + 1) x := by
  rw [List.append_assoc, ← List.replicate_succ']
theorem clamp_is (level : Int) (n : Nat) : ∃ D : Nat, (if (if level < (n : Int) then level else (n : Int)) < 0 then (0 : Int) else (if level < (n : Int) then level else (n : Int))) = (D : Int) ∧ D = clampD level n := by
  refine ⟨clampD level n, ?_, rfl⟩
  unfold clampD
  split <;> split <;> (try split) <;> omega
theorem own_cap {w : World} {B : Nat} {T : TypeId} {sz : Nat} {ao : Option Addr} {n cap : Nat} {xs : List Value} (ho : w.ownsRow B T sz (.slice ao n cap) n xs) : n ≤ cap := by
  rcases ho.2 with ⟨h1, h2⟩ | ⟨g, c, cur, h1, hb, hg, hn, _⟩
  · omega
  · simp only [Value.slice.injEq] at h1; rw [h1.2.2]; exact hn
theorem trace_file {fs : List Fr} {src R : ByteArray} {ld level : Int} {child : Bool} {LL : List ByteArray} (h : linesAt fs src ld child fs.length = LL) (hR : traceT fs src ld child level = R) (hn : Names fs src) (hw : ∀ i, i < fs.length → (Lit.int .i64 fs[i]!.line).wf = true) (hl : (Lit.int .i64 ld).wf = true) :
    AllLe (cutL ((LL ++ [gLine]).drop (clampD level (LL ++ [gLine]).length))) ∧ (⟨(text7 headT (bodyOf (cutL ((LL ++ [gLine]).drop (clampD level (LL ++ [gLine]).length))))).toArray⟩ : ByteArray) = R := by
  subst h
  exact ⟨shown_le hn hw hl level, hR⟩
theorem cut_seen {w : World} {B g c k : Nat} {S : List ByteArray} (h : w.ownsRow B 9 1 (.slice (some ⟨g, 0, none⟩) (8 + 7) c) (8 + 7) ([] ++ vals ((S.drop 0).take 7) ++ [.string ⟨#[9, 46, 46, 46]⟩] ++ vals ((S.drop k).take 7))) (hm : S.length = k + 7) (h20 : 20 < k + 7) :
    (cutL S).length = 15 ∧ 15 ≤ c ∧ g < w.heap.size ∧ ∀ (j : Nat) (x : ByteArray), (cutL S)[j]? = some x → w.cell? ⟨g, 0 + j, none⟩ = some (.string x) := by
  have hl : (cutL S).length = 15 := by rw [cut_len, if_pos (by omega)]
  refine ⟨hl, own_cap h, (owns_lt h g rfl).2, fun j x hj => ?_⟩
  have hlt := (List.getElem?_eq_some_iff.1 hj).1
  rw [Nat.zero_add, h.cellAt j (by omega)]
  have e : [] ++ vals ((S.drop 0).take 7) ++ [.string ⟨#[9, 46, 46, 46]⟩] ++ vals ((S.drop k).take 7) = vals (cutL S) := by
    unfold cutL
    rw [if_pos (by omega), vals_app, vals_app, List.nil_append, List.drop_zero, List.take_of_length_le (l := S.drop k) (by rw [List.length_drop]; omega), show S.length - 7 = k by omega]
    rfl
  rw [e]
  simp [vals, hj]
theorem cell_old {w : World} {o : Obj} {p : Addr} {v : Value} (h : w.cell? p = some v) : (w.alloc o).cell? p = some v :=
  (World.cell?_of_block (Below.heap_alloc w o p.block (lt_of_cell h))).trans h
theorem join_any (bk o c : Nat) (S : List ByteArray) (w : World) (h : ∀ (j : Nat) (x : ByteArray), S[j]? = some x → w.cell? ⟨bk, o + j, none⟩ = some (.string x)) (hb : bk < w.heap.size) (hs : AllLe S) (hl : S.length ≤ 20) (hc : S.length ≤ c) :
    Calls Tryf.prog 41 #[.slice (some ⟨bk, o, none⟩) S.length c, .string ⟨#[10]⟩] w (StrPost w ⟨(bodyOf S).toArray⟩) := by
  have hbl := body_len (L := S) (m := 20) (n := 1099513676500) hl hs
  refine (Tryf.strings_Join bk o c S ⟨#[10]⟩ w h hb (by omega) hc ?_).mono ?_
  · show (bodyOf S).length ≤ _
    omega
  · rintro e w' ⟨rfl, hb'⟩
    exact ⟨rfl, hb'⟩
theorem vals_one (L : List ByteArray) : ∀ u ∈ vals L, u.oneCell' = true := by
  intro u hu
  simp only [vals, List.mem_map] at hu
  obtain ⟨s, _, rfl⟩ := hu
  rfl
theorem Row.seen {w : World} {B g c D : Nat} {A : List ByteArray} (h : Row w B (some ⟨g, 0, none⟩) c A) : ∀ (j : Nat) (x : ByteArray), (A.drop D)[j]? = some x → w.cell? ⟨g, D + j, none⟩ = some (.string x) := by
  intro j x hj
  rw [List.getElem?_drop] at hj
  have hl := (List.getElem?_eq_some_iff.1 hj).1
  rw [h.cellAt (D + j) (by omega)]
  simp [vals, hj]
theorem seen_vals {w : World} {g o : Nat} {S : List ByteArray} (h : ∀ (j : Nat) (x : ByteArray), S[j]? = some x → w.cell? ⟨g, o + j, none⟩ = some (.string x)) (k n : Nat) : ∀ (j : Nat) (u : Value), (vals ((S.drop k).take n))[j]? = some u → w.cell? ((⟨g, o + k, none⟩ : Addr).add j) = some u := by
  intro j u hj
  simp only [vals, List.getElem?_map, Option.map_eq_some_iff] at hj
  obtain ⟨x, hx, rfl⟩ := hj
  have hlt := (List.getElem?_eq_some_iff.1 hx).1
  rw [List.length_take] at hlt
  rw [List.getElem?_take_of_lt (by omega), List.getElem?_drop] at hx
  rw [addr_add, Nat.add_assoc]
  exact h _ x hx
theorem Row.grown {w w' : World} {B c : Nat} {ao row : Option Addr} {L : List ByteArray} (h : Row w B ao c L) (hg : w.grownBy w' (blkOf row)) (hne : ∀ g, blkOf ao = some g → blkOf row ≠ some g) : Row w' B ao c L := by
  refine ⟨h.1, ?_⟩
  rcases h.2 with h2 | ⟨g, c', cur, h1, hB, hb, r⟩
  · exact .inl h2
  · refine .inr ⟨g, c', cur, h1, hB, blk_grown hb hg (fun e => hne g ?_ e.symm), r⟩
    simp only [Value.slice.injEq] at h1
    rw [h1.1]
    rfl
theorem rep_own {w : World} {B g c n t : Nat} {L : List ByteArray} {x : ByteArray} (h : w.ownsRow B 9 1 (.slice (some ⟨g, 0, none⟩) (n + t + 1) c) (n + t + 1) (vals (L ++ List.replicate t x) ++ [.string x])) : w.ownsRow B 9 1 (.slice (some ⟨g, 0, none⟩) (n + (t + 1)) c) (n + (t + 1)) (vals (L ++ List.replicate (t + 1) x)) := by
  rw [← rep_snoc, vals_app]
  exact h
theorem rep_fin {w : World} {B c n t : Nat} {a : Option Addr} {L M : List ByteArray} {x : ByteArray} (h : w.ownsRow B 9 1 (.slice a (n + t) c) (n + t) (vals (L ++ List.replicate t x))) (hM : M = L ++ List.replicate t x) (hn : L.length = n) : Row w B a c M := by
  subst hM hn
  unfold Row
  rw [List.length_append, List.length_replicate]
  exact h
theorem rep_len (L : List ByteArray) (t : Nat) (x : ByteArray) : (L ++ List.replicate t x).length = L.length + t := by simp
set_option maxRecDepth 100000 in
set_option maxHeartbeats 4000000 in
theorem trace_any (G : Interp) {w : World} {B l c g : Nat} {fs : List Fr} {src : ByteArray} {ld : Int} {child : Bool} (h : Built w B l c g fs src ld child) (level : Int) (hlo : -9223372036854775808 ≤ level) (hhi : level ≤ 9223372036854775807) (ht : ∀ i, i < fs.length → 0 ≤ tailF fs[i]! ∧ tailF fs[i]! ≤ 65536) (hsum : sumT fs ≤ 65536) (hlen : fs.length ≤ 4096)
    (hw : ∀ i, i < fs.length → (Lit.int .i64 fs[i]!.line).wf = true) (hF : G.told.answers w.tape) (hn : Names fs src) (hld : (Lit.int .i64 ld).wf = true) :
    Calls Tryf.prog 34 #[.pointer (some ⟨l, 0, none⟩), .int .i64 level] w (StrPost w (traceT fs src ld child level)) := by
  have HU := Lib.hid h
  have HT := Lib.hid ht
  have HW := Lib.hid hw
  have HG := Lib.hid hF
  have HN := Lib.hid hn
  have HLD := Lib.hid hld
  obtain ⟨pl, hl, -⟩ := h.ls
  have HL := Lib.hid hl
  have k16 : w.cell? ⟨l, 16, none⟩ = some (.pointer (parentOf g fs.length)) := blk_cell hl 16 _ rfl
  have hll := blk_lt hl
  have hLN := lines_len src ld child (fun i hi => (ht i hi).1) fs.length (Nat.le_refl _)
  rw [List.take_length] at hLN
  obtain ⟨LL, hLL⟩ : ∃ LL, linesAt fs src ld child fs.length = LL := ⟨_, rfl⟩
  rw [hLL] at hLN
  have HLL := Lib.hid hLL
  have hLB : LL.length ≤ 69632 := by omega
  obtain ⟨R, hR⟩ : ∃ R, traceT fs src ld child level = R := ⟨_, rfl⟩
  rw [hR]
  have HR := Lib.hid hR
  obtain ⟨pp, hpp⟩ : ∃ pp, parentOf g fs.length = pp := ⟨_, rfl⟩
  rw [hpp] at k16
  have HPP := Lib.hid hpp
  clear hpp
  obtain ⟨i0, hi, hz0, hz1, hz2⟩ := info_parts str_info
  clear h ht hw hF hn hld hl hLL hR
  go_enter Tryf.func34, Tryf.ntmps34
  have HR0 := Lib.hid (row_lit w)
  have HB0 := Lib.hid ((Below.refl w.heap.size w).alloc (Nat.le_refl _) (.cells #[] 9))
  go_upto_if 18 with (fail)
  generalize w.alloc (.cells #[] 9) = w0 at *
  go_cut [5] (fun v5 wc => ∃ (ao : Option Addr) (cap : Nat), v5 = .slice ao LL.length cap ∧ Hid (Row wc w.heap.size ao cap LL) ∧ Hid (Below w.heap.size w wc))
  case first =>
    by_cases h0 : fs.length = 0
    · obtain rfl : pp = none := by rw [← HPP.out, h0]; rfl
      have hL0 : LL = [] := by rw [← HLL.out, h0]; rfl
      subst hL0
      clear h0
      go_wp2_with fail
      go_meet
      case rel => exact ⟨_, _, rfl, HR0, HB0⟩
    · obtain ⟨px, rfl⟩ : ∃ px, pp = some px := by rw [← HPP.out]; unfold parentOf; rw [if_neg h0]; exact ⟨_, rfl⟩
      have HS0 : Hid (stackAt fs fs.length 0 = (fs.length, 0)) := Lib.hid (stackAt_stop fs (Int.le_refl 0))
      have tj : decide (0 < fs.length) = true := decide_eq_true (by omega)
      clear h0
      go_wp2_with fail
      refine (getAt_any (HU.out.kept HB0.out) 0 (Int.le_refl 0) (by omega) HT.out HS0.out).mono ?_
      rintro e w1 ⟨d, rfl, hd, hb⟩
      have HR1 := Lib.hid (Row.below HR0.out hb)
      have HB1 := Lib.hid (HB0.out.trans (hb.mono HB0.out.size))
      clear hb
      go_wp2_with fail
      go_loopg [5, 7, 8, 9] LL.length (fun kk v5 v7 v8 v9 wr => ∃ (L : List ByteArray) (j : Nat) (ao : Option Addr) (cap d : Nat), kk = LL.length - L.length ∧ j ≤ fs.length ∧ v5 = .slice ao L.length cap ∧ v7 = .int .i64 (L.length : Int) ∧ v8 = .pointer (some ⟨d, 0, none⟩) ∧ v9 = .bool (decide (0 < j)) ∧ wr.cell? ⟨d, 0, none⟩ = some (.pointer (parentOf g j)) ∧ L.length ≤ LL.length ∧ Hid (Row wr w.heap.size ao cap L) ∧ Hid (Below w.heap.size w wr) ∧ Hid (stackAt fs fs.length (L.length : Int) = (j, 0)) ∧ Hid (L ++ linesAt fs src ld child j = LL))
      case atStart => exact ⟨[], fs.length, _, 0, d, rfl, Nat.le_refl _, rfl, rfl, rfl, by rw [tj], hd, Nat.zero_le _, HR1, HB1, HS0, HLL⟩
      case round =>
        obtain ⟨L, j, ao, cap, d', rfl, hj, rfl, rfl, rfl, rfl, hd', hLL', HRr, HBr, HSr, HLr⟩ := hrel
        clear hd
        cases j with
        | zero =>
          have hL0 : L = LL := by rw [← HLr.out]; simp [linesAt]
          subst hL0
          go_wp2_with fail
          go_meet
          case rel => exact ⟨_, _, rfl, HRr, HBr⟩
        | succ j =>
          rw [parent_succ] at hd'
          have tj2 : decide (0 < j + 1) = true := decide_eq_true (by omega)
          have hjl : j < fs.length := by omega
          have hsel : selO fs (L.length : Int) = some j := selO_succ HSr.out
          have HUr := Lib.hid (HU.out.kept HBr.out)
          have hWH := whereM_any G HUr.out (L.length : Int) (by omega) (by omega) HT.out HW.out (told_at HG.out HBr.out) HN.out.2.1
          rw [hsel] at hWH
          have HWH := Lib.hid hWH
          clear hWH hsel
          obtain ⟨s1, hs1⟩ : ∃ s1, whereO fs src (some j) = s1 := ⟨_, rfl⟩
          rw [hs1] at HWH
          have HS1 := Lib.hid hs1
          clear hs1
          go_wp2_with fail
          refine HWH.out.mono ?_
          rintro e w2 ⟨rfl, hb2⟩
          have HB2 := Lib.hid (HBr.out.trans (hb2.mono HBr.out.size))
          have HR2 := Lib.hid (HRr.out.below hb2)
          have HU2 := Lib.hid (HUr.out.kept hb2)
          have HFM := Lib.hid (fmtN_any G HU2.out (k := j) hjl (told_at HG.out HB2.out) HN.out HLD.out)
          obtain ⟨s2, hs2⟩ : ∃ s2, fmtOf (rawOf fs j src ld child) = s2 := ⟨_, rfl⟩
          rw [hs2] at HFM
          have HS2 := Lib.hid hs2
          have kd := (hb2.cell (p := ⟨d', 0, none⟩) (lt_of_cell hd')).trans hd'
          clear hs2 hb2 HUr HBr HRr hd' HWH
          go_wp2_with fail
          refine HFM.out.mono ?_
          rintro e w3 ⟨rfl, hb3⟩
          have HB3 := Lib.hid (HB2.out.trans (hb3.mono HB2.out.size))
          have HR3 := Lib.hid (HR2.out.below hb3)
          have hF3 := answers_open (told_at HG.out HB3.out)
          have hsz3 : w.heap.size ≤ w3.heap.size := HB3.out.size
          have ht2 := HT.out j hjl
          obtain ⟨tl, htl⟩ : ∃ tl : Nat, tailF fs[j]! = (tl : Int) := ⟨(tailF fs[j]!).toNat, by omega⟩
          rw [htl] at ht2
          have ht21 := ht2.2
          clear ht2
          have hLN2 := lineN L j HLr.out HS1.out HS2.out htl
          obtain ⟨M, hM⟩ : ∃ M, L ++ blockOf fs j src ld child = M := ⟨_, rfl⟩
          have HX := trace_step HN.out HW.out HLD.out hjl HS1.out HS2.out
          have HTL := Lib.hid htl
          have HTL2 := Lib.hid htl
          have HMM := Lib.hid hM
          have HTO := Lib.hid (told5 G s1.data.toList s2.data.toList (by rw [ba_len]; have := HX.1; omega) (by rw [ba_len]; have := HX.2; omega))
          clear hb3 HB2 HR2 HU2 HFM kd htl hM HX
          go_upto_region 10 with (at_builtin; refine wpList_push _ rfl (.tmp 36) (.tmp 47) 84 rfl w.heap.size 9 i0 (.string ⟨#[]⟩) 1 16 Tryf.underlying84 hi hz0 hz1 hz2 rfl (by decide) ao L.length cap (vals L) rfl (Row.below HR3.out (by repeat (first | exact Below.refl _ _ | apply Below.drew | exact below_drewN (Below.alloc (Below.refl _ _) (Nat.le_refl _) _) 1 | refine Below.alloc ?_ (by simp) _))) ⟨_, 0, none⟩ 1 1 [.string _] rfl rfl (by first | exact news_s (by simp) | exact news_sd (by simp)) (by simp [Value.oneCell']) (by decide) (by unfold maxLen; omega) (by omega) (by simp; omega) ?_; intro g1 c1 w8 hown hgrow hwhere; have HO := Lib.hid hown; have HGw := Lib.hid hgrow; clear hown hgrow hwhere)
          have HB8 := Lib.hid (below_grown (((HB3.out.alloc hsz3 _).alloc (by simp; omega) _).drew) (Nat.le_refl _) HGw.out (fun x hx => (owns_lt HR3.out x hx).1))
          have hx := HTO.out
          unfold read5 at hx
          have HR8 := Lib.hid (row_snoc HO.out hx)
          have hfr := frameR_of (HU.out.kept HB8.out) (k := j) hjl
          obtain ⟨p, a1, a2, -⟩ := hfr.fn
          have a4 := hfr.tail
          obtain ⟨fg, hfg⟩ : ∃ b, fs[j]!.g = b := ⟨_, rfl⟩
          rw [HTL.out] at a4
          rw [hfg] at a2
          have hz : fg = true → tl = 0 := fun e => by have := HTL.out; unfold tailF at this; rw [hfg, e] at this; simp at this; omega
          obtain ⟨hlnA, hlnB, hlnC⟩ := hLN2
          rw [HMM.out] at hlnC
          rw [hlnB] at HMM
          obtain ⟨ln, hln⟩ : ∃ ln : ByteArray, ln = ⟨(text5 s1.data.toList s2.data.toList).toArray⟩ := ⟨_, rfl⟩
          rw [← hln] at HR8 HMM
          have HC := Lib.hid hlnC
          have hM1 : M = (L ++ [ln]) ++ List.replicate tl tcLine := by rw [← HMM.out]; simp
          have HM1 := Lib.hid hM1
          have hML : M.length = L.length + 1 + tl := by rw [hM1]; simp; omega
          have hLL8 : (L ++ [ln]).length = L.length + 1 := by simp
          obtain ⟨L8, hL8⟩ : ∃ L8, L ++ [ln] = L8 := ⟨_, rfl⟩
          rw [hL8] at HR8 HM1 hLL8
          have hsz8 : w.heap.size ≤ w8.heap.size := HB8.out.size
          clear hx HTO HTL HO HGw HR3 HB3 hF3 hfg hfr hlnB hlnC hln hM1 HS1 HS2 HLr hL8
          rw [← hLL8]
          have hnx : stackAt fs fs.length ((L.length : Int) + tl + 1) = (j, 0) := by
            have := stackAt_next HSr.out (by rw [HTL2.out]; omega)
            rw [HTL2.out] at this
            rwa [show (L.length : Int) + tl + 1 = L.length + (1 + tl) by omega]
          have HNX := Lib.hid hnx
          clear hnx HSr
          rcases (show (fg = true ∧ tl = 0) ∨ (fg = false ∧ tl = 0) ∨ (fg = false ∧ 0 < tl) by cases fg with
            | true => exact .inl ⟨rfl, hz rfl⟩
            | false => rcases (show tl = 0 ∨ 0 < tl by omega) with h | h <;> simp [h]) with ⟨rfl, rfl⟩ | ⟨rfl, rfl⟩ | ⟨rfl, htp⟩
          iterate 2
            clear hz
            have hM8 : L8 = M := by rw [HM1.out]; simp
            subst hM8
            have HNX' : Hid (stackAt fs fs.length ((L.length : Int) + 1) = (j, 0)) := Lib.hid (by have := HNX.out; simpa using this)
            go_wp2_with fail
            refine (getAt_any (HU.out.kept HB8.out) ((L.length : Int) + 1) (by omega) (by omega) HT.out HNX'.out).mono ?_
            rintro e w9 ⟨d9, rfl, hd9, hb9⟩
            have HR9 := Lib.hid (HR8.out.below hb9)
            have HB9 := Lib.hid (HB8.out.trans (hb9.mono HB8.out.size))
            have hLe : (L8.length : Int) = L.length + 1 := by rw [hLL8]; rfl
            have HNX9 : Hid (stackAt fs fs.length (L8.length : Int) = (j, 0)) := Lib.hid (by rw [hLe]; exact HNX'.out)
            clear hb9 HNX HNX' a1 a2 a4
            go_wp2_with fail
            go_roundg (LL.length - L8.length)
            case measure => omega
            case rel => exact ⟨L8, j, _, _, d9, rfl, by omega, by rw [hLL8], by rw [hLe], rfl, rfl, hd9, by omega, HR9, HB9, HNX9, HC⟩
          · clear hz
            have tp : decide ((0 : Int) < (tl : Int)) = true := decide_eq_true (by omega)
            have tp2 : decide (0 < tl) = true := decide_eq_true htp
            have HL8 := Lib.hid hLL8
            obtain ⟨n8, hn8⟩ : ∃ n8, L8.length = n8 := ⟨_, rfl⟩
            have HN8 := Lib.hid hn8
            rw [hn8] at hLL8
            rw [hn8]
            have HLL8 := Lib.hid hLL8
            have hn8b : n8 ≤ 69632 := by omega
            have hMb : M.length = n8 + tl := by omega
            have HMb := Lib.hid hMb
            clear hn8 hLL8
            go_wp2_with fail
            go_loopg [5, 7, 11] tl (fun kk v5 v7 v11 wr9 => ∃ (t : Nat) (ao9 : Option Addr) (cap9 : Nat), kk = tl - t ∧ t ≤ tl ∧ v5 = .slice ao9 (n8 + t) cap9 ∧ v7 = .int .i64 ((L.length : Int) + t) ∧ v11 = .int .i64 ((tl : Int) - (t : Int)) ∧ Hid (wr9.ownsRow w.heap.size 9 1 (.slice ao9 (n8 + t) cap9) (n8 + t) (vals (L8 ++ List.replicate t tcLine))) ∧ Hid (Below w.heap.size w wr9))
            case atStart => exact ⟨0, some ⟨g1, 0, none⟩, c1, rfl, by omega, rfl, by simp, by simp, Lib.hid (by have := HR8.out; unfold Row at this; rw [HN8.out] at this; simpa using this), HB8⟩
            case round =>
              obtain ⟨t, ao9, cap9, rfl, htl9, rfl, rfl, rfl, HRo, HBo⟩ := hrel
              have hszo : w.heap.size ≤ wr.heap.size := HBo.out.size
              clear HR8 HB8 a1 a2 a4 tp tp2
              by_cases htt : t < tl
              · have t9 : decide (0 < (tl : Int) - (t : Int)) = true := decide_eq_true (by omega)
                go_wp2_with (at_builtin; refine wpList_push _ rfl (.tmp 72) (.tmp 73) 84 rfl w.heap.size 9 i0 (.string ⟨#[]⟩) 1 16 Tryf.underlying84 hi hz0 hz1 hz2 rfl (by decide) ao9 (n8 + t) cap9 (vals (L8 ++ List.replicate t tcLine)) rfl (HRo.out.alloc _) ⟨_, 0, none⟩ 1 1 [.string _] rfl rfl (by first | exact news_s (by simp) | exact news_sd (by simp)) (by simp [Value.oneCell']) (by decide) (by unfold maxLen; omega) (by omega) (by simp; omega) ?_; intro g2 c2 w9 hown hgrow hwhere; have HO := Lib.hid hown; have HGw := Lib.hid hgrow; clear hown hgrow hwhere)
                go_roundg (tl - (t + 1))
                case measure => omega
                case rel => exact ⟨t + 1, _, c2, rfl, by omega, rfl, by go_num, by go_num, Lib.hid (rep_own HO.out), Lib.hid (below_grown (HBo.out.alloc hszo _) (Nat.le_refl _) HGw.out (fun x hx => (owns_lt HRo.out x hx).1))⟩
              · have t9 : decide (0 < (tl : Int) - (t : Int)) = false := decide_eq_false (by omega)
                obtain rfl : tl = t := by omega
                have HR9 := Lib.hid (rep_fin HRo.out HM1.out HN8.out)
                clear HRo
                go_wp2_with fail
                refine (getAt_any (HU.out.kept HBo.out) ((L.length : Int) + tl + 1) (by omega) (by omega) HT.out HNX.out).mono ?_
                rintro e w9 ⟨d9, rfl, hd9, hb9⟩
                have HR10 := Lib.hid (HR9.out.below hb9)
                have HB10 := Lib.hid (HBo.out.trans (hb9.mono HBo.out.size))
                have hLe : (M.length : Int) = L.length + tl + 1 := by omega
                have HNX9 : Hid (stackAt fs fs.length (M.length : Int) = (j, 0)) := Lib.hid (by rw [hLe]; exact HNX.out)
                clear hb9 HNX
                go_wp2_with fail
                go_roundg (LL.length - M.length)
                case measure => omega
                case rel => exact ⟨M, j, _, _, d9, rfl, by omega, by rw [HMb.out], by rw [hLe], rfl, rfl, hd9, by omega, HR10, HB10, HNX9, HC⟩
  case rest =>
    obtain ⟨ao, cap, rfl, HRL, HBL⟩ := hcut
    clear HR0 HB0 k16
    have hszc : w.heap.size ≤ wc.heap.size := HBL.out.size
    have hFc := answers_open (told_at HG.out HBL.out)
    have HTO := Lib.hid (told6 G [91, 71, 93] [63] (by simp) (by simp))
    have hFB := trace_file HLL.out HR.out HN.out HW.out HLD.out
    obtain ⟨A, hA⟩ : ∃ A, LL ++ [gLine] = A := ⟨_, rfl⟩
    rw [hA] at hFB
    have HA := Lib.hid hA
    obtain ⟨n, hn⟩ : ∃ n, LL.length + 1 = n := ⟨_, rfl⟩
    have HAL : Hid (A.length = n) := Lib.hid (by rw [← hA, ← hn]; simp)
    obtain ⟨D, hD1, hD2⟩ := clamp_is level n
    obtain ⟨mi, hmi⟩ : ∃ mi, (if level < (n : Int) then level else (n : Int)) = mi := ⟨_, rfl⟩
    rw [hmi] at hD1
    have HD2 := Lib.hid hD2
    have hDn : D ≤ n := by rw [hD2]; exact clamp_le _ _
    have HMIN : ∀ w', Hid (Calls Tryf.prog 40 #[.int .i64 level, .int .i64 (n : Int)] w' fun e w'' => e = .returned (.int .i64 mi) ∧ w' = w'') := fun w' => Lib.hid (by have := min_any level n w'; rwa [hmi] at this)
    have HMAX : ∀ w', Hid (Calls Tryf.prog 39 #[.int .i64 0, .int .i64 mi] w' fun e w'' => e = .returned (.int .i64 (D : Int)) ∧ w' = w'') := fun w' => Lib.hid (by have := max_any 0 mi w'; rwa [hD1] at this)
    have HMIN2 := Lib.hid HMIN
    have HMAX2 := Lib.hid HMAX
    have HR2 := Lib.hid hFB
    have hn0 : 1 ≤ n ∧ n ≤ 69633 := by omega
    have hn1 := hn0.1
    have hn2 := hn0.2
    have HNN := Lib.hid hn
    clear HMIN HMAX hmi hD1 hD2 hA hFB hn hn0 HR HLL hLN hlo hhi hsum
    go_upto_region 18 with (at_builtin; refine wpList_push _ rfl (.tmp 79) (.tmp 84) 84 rfl w.heap.size 9 i0 (.string ⟨#[]⟩) 1 16 Tryf.underlying84 hi hz0 hz1 hz2 rfl (by decide) ao LL.length cap (vals LL) rfl (Row.below HRL.out (by repeat (first | exact Below.refl _ _ | apply Below.drew | exact below_drewN (Below.alloc (Below.refl _ _) (Nat.le_refl _) _) 1 | refine Below.alloc ?_ (by simp) _))) ⟨_, 0, none⟩ 1 1 [.string _] rfl rfl (by first | exact news_s (by simp) | exact news_sd (by simp)) (by simp [Value.oneCell']) (by decide) (by unfold maxLen; omega) (by omega) (by simp; omega) ?_; intro g1 c1 w8 hown hgrow hwhere; have HO := Lib.hid hown; have HGw := Lib.hid hgrow; clear hown hgrow hwhere)
    have HB8 := Lib.hid (below_grown (((HBL.out.alloc hszc _).alloc (by simp; omega) _).drew) (Nat.le_refl _) HGw.out (fun x hx => (owns_lt HRL.out x hx).1))
    have hx := HTO.out
    unfold read6 at hx
    have hR8 := row_snoc HO.out (hx.trans (show _ = gLine by rfl))
    rw [HA.out] at hR8
    have hcap := own_cap hR8
    rw [HAL.out] at hcap
    have HR8 := Lib.hid hR8
    rw [HNN.out]
    clear hx HTO HO HGw HRL HBL hFc hR8
    go_wp2_with fail
    refine (HMIN2.out _).out.mono ?_
    rintro e w' ⟨rfl, rfl⟩
    go_wp2_with fail
    refine (HMAX2.out _).out.mono ?_
    rintro e w' ⟨rfl, rfl⟩
    have hi1 : (D : Int) ≤ (n : Int) := by omega
    have hi2 : (n : Int) ≤ (c1 : Int) := by omega
    have hi3 : (0 : Int) ≤ (D : Int) := by omega
    clear HMIN2 HMAX2
    have HFR := Lib.hid (show (∃ S, S = A.drop D ∧ S.length = n - D ∧ AllLe (cutL S) ∧ (⟨(text7 headT (bodyOf (cutL S))).toArray⟩ : ByteArray) = R) from ⟨_, rfl, by rw [List.length_drop, HAL.out], by have := HR2.out.1; rwa [HAL.out, ← HD2.out] at this, by have := HR2.out.2; rwa [HAL.out, ← HD2.out] at this⟩)
    obtain ⟨S, hS1, hS2, hS3, hS4⟩ := HFR.out
    have hseen := HR8.out.seen (D := D)
    rw [← hS1] at hseen
    obtain ⟨m, hm⟩ : ∃ m, n - D = m := ⟨_, rfl⟩
    rw [hm] at hS2
    have HS2 := Lib.hid hS2
    have HS3 := Lib.hid hS3
    have HS4 := Lib.hid hS4
    have HSE := Lib.hid hseen
    have hgl := owns_lt HR8.out g1 rfl
    have hgl1 := hgl.1
    have hgl2 := hgl.2
    clear HFR HD2 HR2 hS1 hS2 hS3 hS4 hseen HNN HA hgl
    by_cases hDc : D = c1
    · have hm0 : m = 0 := by omega
      obtain rfl : S = [] := List.eq_nil_of_length_eq_zero (by rw [HS2.out, hm0])
      have HTO := Lib.hid (told7 G headT [] (by decide) (by decide))
      clear HSE HS2 HR8 HAL hm0 hm
      go_wp2_with fail
      refine (Tryf.strings_Join_none _ _ _ _).mono ?_
      rintro e w' ⟨rfl, hw'⟩
      obtain rfl := hw'
      have hF8 := answers_open (told_at HG.out HB8.out)
      go_wp2_with fail
      go_ret
      refine ⟨?_, HB8.out.trans (Below.mono (by repeat (first | exact Below.refl _ _ | apply Below.drew | exact below_drewN (Below.alloc (Below.refl _ _) (Nat.le_refl _) _) 1 | refine Below.alloc ?_ (by simp) _)) HB8.out.size)⟩
      have hx := HTO.out
      unfold read7 headT at hx
      simp only [hx]
      rw [← HS4.out]
      rfl
    · have hDl : D < c1 := by omega
      have hi4 : (D : Int) < (c1 : Int) := by omega
      obtain ⟨cm, hcm⟩ : ∃ cm, c1 - D = cm := ⟨_, rfl⟩
      have hmc : m ≤ cm := by omega
      have hmb : m ≤ 69633 := by omega
      clear hDc
      go_upto_if 97 with (fail)
      clear hm hcm
      by_cases h20 : 20 < m
      · have t20 : decide ((20 : Int) < (m : Int)) = true := decide_eq_true (by omega)
        have t20n : decide (20 < m) = true := decide_eq_true h20
        obtain ⟨k, rfl⟩ : ∃ k, m = k + 7 := ⟨m - 7, by omega⟩
        have t20c : decide ((20 : Int) < (k : Int) + 7) = true := decide_eq_true (by omega)
        have t20d : (20 : Int) < ((k + 7 : Nat) : Int) := by omega
        have t20e : (20 : Int) < (k : Int) + 7 := by omega
        obtain ⟨w20, hmk0, hmo, hmg⟩ := run_make_own (P := Tryf.prog) w8 w8.heap.size 84 9 i0 (.string ⟨#[]⟩) 1 Tryf.underlying84 hi hz0 hz1 .i64 .i64 20 (by rw [hz2]; decide) (by decide) (Nat.le_refl _)
        have hmk : (Instr.makeSlice 84 (.int .i64 0) (.int .i64 20)).run Tryf.prog w8 = .ok (.slice (some ⟨w8.heap.size, 0, none⟩) 0 20) w20 := hmk0
        have HMO := Lib.hid hmo
        have HMG := Lib.hid hmg
        have HSE2 : Hid (∀ (j : Nat) (x : ByteArray), S[j]? = some x → w20.cell? ⟨g1, D + j, none⟩ = some (.string x)) := Lib.hid (fun j x hj => HMG.out.cell (HSE.out j x hj) (by simp))
        have HSZ20 := Lib.hid HMG.out.size
        have HB20 := Lib.hid (below_grown HB8.out (Nat.le_refl _) HMG.out (fun x hx => by cases hx))
        clear hmk0 hmo hmg h20
        go_upto_region 22 with (at_builtin; refine wpList_push _ rfl (.tmp 99) (.tmp 101) 84 rfl w8.heap.size 9 i0 (.string ⟨#[]⟩) 1 16 Tryf.underlying84 hi hz0 hz1 hz2 rfl (by decide) (some ⟨w8.heap.size, 0, none⟩) 0 20 [] rfl HMO.out ⟨g1, D + 0, none⟩ 7 cm (vals ((S.drop 0).take 7)) rfl (by rw [vals_len, List.length_take, List.length_drop, HS2.out]; omega) (seen_vals HSE2.out 0 7) (vals_one _) (by decide) (by unfold maxLen; omega) (by omega) HSZ20.out ?_; intro g2 c2 w9 hown hgrow hwhere; have HO1 := Lib.hid hown; have HGw1 := Lib.hid hgrow; have HWh1 := Lib.hid hwhere; clear hown hgrow hwhere)
        clear hmk t20 t20n t20c t20d t20e
        have HN2 := Lib.hid (owns_lt HO1.out g2 rfl)
        have HSZ9 : Hid (w8.heap.size ≤ (w9.alloc (.cells #[.string ⟨#[9, 46, 46, 46]⟩] 9)).heap.size) := Lib.hid (by have := HN2.out; simp; omega)
        have HSE3 : Hid (∀ (j : Nat) (x : ByteArray), S[j]? = some x → w9.cell? ⟨g1, D + j, none⟩ = some (.string x)) := Lib.hid (fun j x hj => HGw1.out.cell (HSE2.out j x hj) (by simp [blkOf]; omega))
        have HB9 := Lib.hid (below_grown HB20.out (Nat.le_refl _) HGw1.out (fun x hx => by simp [blkOf] at hx; omega))
        clear HSE HSE2 HB20 HSZ20 HMO HMG
        go_upto_region 23 with (at_builtin; refine wpList_push _ rfl (.tmp 103) (.tmp 104) 84 rfl w8.heap.size 9 i0 (.string ⟨#[]⟩) 1 16 Tryf.underlying84 hi hz0 hz1 hz2 rfl (by decide) (some ⟨g2, 0, none⟩) 7 c2 _ rfl (HO1.out.alloc _) ⟨_, 0, none⟩ 1 1 [.string _] rfl rfl (by first | exact news_s (by simp) | exact news_sd (by simp)) (by simp [Value.oneCell']) (by decide) (by unfold maxLen; omega) (by omega) HSZ9.out ?_; intro g3 c3 w10 hown hgrow hwhere; have HO2 := Lib.hid hown; have HGw2 := Lib.hid hgrow; have HWh2 := Lib.hid hwhere; clear hown hgrow hwhere)
        have HN3 := Lib.hid (owns_lt HO2.out g3 rfl)
        have HSZ10 : Hid (w8.heap.size ≤ w10.heap.size) := Lib.hid (by have := HN3.out; omega)
        have HSE4 : Hid (∀ (j : Nat) (x : ByteArray), S[j]? = some x → w10.cell? ⟨g1, D + j, none⟩ = some (.string x)) := Lib.hid (fun j x hj => HGw2.out.cell (cell_old (HSE3.out j x hj)) (by have := HN2.out; simp [blkOf]; omega))
        have HB10 := Lib.hid (below_grown (HB9.out.alloc HB9.out.size (.cells #[.string ⟨#[9, 46, 46, 46]⟩] 9)) (Nat.le_refl _) HGw2.out (fun x hx => by have := HN2.out; simp [blkOf] at hx; omega))
        have hi6 : (k : Int) + 7 ≤ (cm : Int) := by omega
        have e7 : k + 7 - k = 7 := by omega
        clear HSE3 HB9 HSZ9 HO1 HGw1 HWh1 HWh2 HGw2
        go_upto_region 24 with (at_builtin; refine wpList_push _ rfl (.tmp 106) (.tmp 113) 84 rfl w8.heap.size 9 i0 (.string ⟨#[]⟩) 1 16 Tryf.underlying84 hi hz0 hz1 hz2 rfl (by decide) (some ⟨g3, 0, none⟩) 8 c3 _ rfl HO2.out ⟨g1, D + k, none⟩ (k + 7 - k) (cm - k) (vals ((S.drop k).take 7)) rfl (by rw [vals_len, List.length_take, List.length_drop, HS2.out]; omega) (seen_vals HSE4.out k 7) (vals_one _) (by omega) (by unfold maxLen; omega) (by omega) HSZ10.out ?_; intro g4 c4 w11 hown hgrow hwhere; have HO3 := Lib.hid hown; have HGw3 := Lib.hid hgrow; have HWh3 := Lib.hid hwhere; clear hown hgrow hwhere)
        have hO3 := HO3.out
        rw [e7] at hO3
        try rw [e7]
        have HO3 := Lib.hid hO3
        clear hO3
        have HB11 := Lib.hid (below_grown HB10.out (Nat.le_refl _) HGw3.out (fun x hx => by have := HN3.out; simp [blkOf] at hx; omega))
        obtain ⟨q1, q2, q3, q4⟩ := cut_seen HO3.out HS2.out (by omega)
        have HJ := Lib.hid (join_any g4 0 c4 (cutL S) w11 q4 q3 HS3.out (by omega) (by omega))
        rw [q1] at HJ
        have HF11 := answers_open (told_at HG.out HB11.out)
        have HTO := Lib.hid (told7 G headT (bodyOf (cutL S)) (by decide) (by have := body_len (L := cutL S) (m := 20) (n := 1099513676500) (by omega) HS3.out; omega))
        clear HSE4 HB10 HSZ10 HO3 HGw3 HWh3 HO2 HS2 HR8 HAL q1 q2 q3 q4 hi6 e7 HN2 HN3
        generalize cutL S = S2 at *
        go_wp2_with fail
        refine HJ.out.mono ?_
        rintro e w12 ⟨rfl, hb12⟩
        have HB12 := Lib.hid (HB11.out.trans (hb12.mono HB11.out.size))
        have HF12 := answers_open (told_at HG.out HB12.out)
        clear hb12 HB11 HF11 HJ
        go_wp2_with fail
        go_ret
        refine ⟨?_, HB12.out.trans (Below.mono (by repeat (first | exact Below.refl _ _ | apply Below.drew | exact below_drewN (Below.alloc (Below.refl _ _) (Nat.le_refl _) _) 1 | refine Below.alloc ?_ (by simp) _)) HB12.out.size)⟩
        have hx := HTO.out
        unfold read7 headT at hx
        simp only [hx]
        rw [← HS4.out]
        rfl
      · have t20 : decide ((20 : Int) < (m : Int)) = false := decide_eq_false (by omega)
        have t20n : decide (20 < m) = false := decide_eq_false h20
        have hcut : cutL S = S := by unfold cutL; rw [if_neg (by rw [HS2.out]; exact h20)]
        rw [hcut] at HS3 HS4
        have HJ := Lib.hid (join_any g1 D cm S w8 HSE.out hgl2 HS3.out (by rw [HS2.out]; omega) (by rw [HS2.out]; exact hmc))
        rw [HS2.out] at HJ
        have hS20 : S.length ≤ 20 := by rw [HS2.out]; omega
        clear hcut HSE HS2 HR8 HAL
        go_wp2_with fail
        refine HJ.out.mono ?_
        rintro e w9 ⟨rfl, hb9⟩
        have HB9 := Lib.hid (HB8.out.trans (hb9.mono HB8.out.size))
        have HF9 := answers_open (told_at HG.out HB9.out)
        have HTO := Lib.hid (told7 G headT (bodyOf S) (by decide) (by have := body_len (L := S) (m := 20) (n := 1099513676500) (by omega) HS3.out; omega))
        clear hb9 HB8 HJ
        go_wp2_with fail
        go_ret
        refine ⟨?_, HB9.out.trans (Below.mono (by repeat (first | exact Below.refl _ _ | apply Below.drew | exact below_drewN (Below.alloc (Below.refl _ _) (Nat.le_refl _) _) 1 | refine Below.alloc ?_ (by simp) _)) HB9.out.size)⟩
        have hx := HTO.out
        unfold read7 headT at hx
        simp only [hx]
        rw [← HS4.out]
        rfl
end Go.Proofs.YtjbehcabekkjdaaFmt
