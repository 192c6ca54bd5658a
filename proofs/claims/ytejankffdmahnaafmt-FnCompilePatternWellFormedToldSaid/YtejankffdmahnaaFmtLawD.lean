/-
  For the law on well-formed programs: the exported helpers' contracts, what the law's first loop keeps, how it ends. Conditions as each states.
-/
import Derived.Test.YtejankffdmahnaaFmtWf
import Derived.Test.YtejankffdmahnaaFmtPnil
import Derived.Test.YtejankffdmahnaaFmtPrun
import Derived.Test.YtejankffdmahnaaFmtHelp60
import Derived.Test.YtejankffdmahnaaFmtCompTop
import Derived.BigQuiet
import Derived.Deep.OwnRows
import Derived.Deep.LoopGhost
namespace Go.Proofs.YtejankffdmahnaaFmt
open Go.RowKit
set_option linter.unusedVariables false
set_option linter.unusedSimpArgs false

/-- An instruction's code and its two numbers. -/
def insF : Ins → Int × Int × Int
  | .chr _ => (0, -1, -1)
  | .mat => (1, -1, -1)
  | .tmat => (2, -1, -1)
  | .jmp a => (3, a, -1)
  | .split a b => (4, a, b)
  | .save n => (5, n, -1)
  | .psave n => (6, n, -1)
  | .brace b e => (7, b, e)
  | .num n => (8, n, -1)
theorem InsAt.fields {X : Nat → Prop} {w : World} {i : Ins} {xs : List Value} (h : InsAt X w i xs) : ∃ v, (v = Value.nilIface ∨ ((∃ c, i = .chr c) ∧ ∃ T p, v = .iface T (.pointer p))) ∧ xs = [.int .i64 (insF i).1, v, .int .i64 (insF i).2.1, .int .i64 (insF i).2.2] := by
  cases h with
  | chr hcl =>
    obtain ⟨T, p, f, hv, _⟩ := ClAt.meets hcl |>.to
    subst hv
    exact ⟨_, .inr ⟨⟨_, rfl⟩, T, p, rfl⟩, rfl⟩
  | _ => exact ⟨_, .inl rfl, rfl⟩
/-- A program as it lies in the block ig. -/
def ProgAt (w : World) (ig : Nat) (J : List Ins) : Prop := ∀ (n : Nat) (i : Ins), J[n]? = some i → ∃ v, (v = Value.nilIface ∨ ((∃ c, i = .chr c) ∧ ∃ T p, v = .iface T (.pointer p))) ∧
  w.cell? ⟨ig, n * 4, none⟩ = some (.int .i64 (insF i).1) ∧ w.cell? ⟨ig, n * 4 + 1, none⟩ = some v ∧ w.cell? ⟨ig, n * 4 + 2, none⟩ = some (.int .i64 (insF i).2.1) ∧ w.cell? ⟨ig, n * 4 + 3, none⟩ = some (.int .i64 (insF i).2.2)
theorem progAt_of {w w' : World} {J : List Ins} {e : Ending} (h0 : 0 < J.length) (h : ProgPost w J e w') : ∃ ig cap, e = .returned (.slice (some ⟨ig, 0, none⟩) J.length cap) ∧ ProgAt w' ig J ∧ ig < w'.heap.size ∧ Below w.heap.size w w' ∧ J.length ≤ 9223372036854775807 := by
  obtain ⟨m, ao, cap, ys, he, hown, hels, hb, _, _⟩ := h
  obtain ⟨ig, rfl⟩ : ∃ ig, ao = some ⟨ig, 0, none⟩ := by
    rcases hown.2 with ⟨_, h2⟩ | ⟨g, c', cur, h1, _⟩
    · omega
    · simp only [Value.slice.injEq] at h1; exact ⟨g, h1.1⟩
  have hmx : J.length ≤ 9223372036854775807 := by
    rcases hown.2 with ⟨_, h2⟩ | ⟨g', c, cur, h1, hb, hg, hn, hm, _⟩
    · omega
    · unfold maxLen at hm; omega
  refine ⟨ig, cap, he, fun n i hi => ?_, (owns_lt hown ig rfl).2, hb, hmx⟩
  have hlt : n < J.length := (List.getElem?_eq_some_iff.1 hi).1
  obtain ⟨xs, h1, h2⟩ := hels.get n i hi
  obtain ⟨v, hv, rfl⟩ := h1.fields
  exact ⟨v, hv, (hown.cellAt (n * 4) (by omega)).trans (h2 0 (by omega)), (hown.cellAt (n * 4 + 1) (by omega)).trans (h2 1 (by omega)), (hown.cellAt (n * 4 + 2) (by omega)).trans (h2 2 (by omega)), (hown.cellAt (n * 4 + 3) (by omega)).trans (h2 3 (by omega))⟩
theorem fields_results {tmps : Array Value} {w : World} {v1 v2 v3 : Value} (h1 : tmps[2]? = some v1) (h2 : tmps[3]? = some v2) (h3 : tmps[4]? = some v3) : (results Tryf.f12 tmps).run Tryf.prog w = .ok (.tuple #[v1, v2, v3]) w := by
  have h1' : tmps[2]?.getD undef = v1 := by rw [h1]; rfl
  have h2' : tmps[3]?.getD undef = v2 := by rw [h2]; rfl
  have h3' : tmps[4]?.getD undef = v3 := by rw [h3]; rfl
  simp [results, Tryf.results12, h1', h2', h3']
set_option maxHeartbeats 1000000 in
theorem fields_any (x a b : Int) (v : Value) (w : World) : Calls Tryf.prog 12 #[.agg #[.int .i64 x, v, .int .i64 a, .int .i64 b]] w fun e w' => e = .returned (.tuple #[.int .i64 x, .int .i64 a, .int .i64 b]) ∧ Below w.heap.size w w' := by
  have HB := Lib.hid ((Below.refl w.heap.size w).alloc (Nat.le_refl _) (.cells #[.int .i64 x, v, .int .i64 a, .int .i64 b] 39))
  have hbk := blk_new w (.cells #[.int .i64 x, v, .int .i64 a, .int .i64 b] 39)
  have k0 := blk_cell hbk 0 _ rfl
  have k2 := blk_cell hbk 2 _ rfl
  have k3 := blk_cell hbk 3 _ rfl
  clear hbk
  go_enter Tryf.func12, Tryf.ntmps12
  go_upto_region 1 with (fail)
  generalize w.alloc (.cells #[.int .i64 x, v, .int .i64 a, .int .i64 b] 39) = w1 at *
  go_quiet (fail)
  generalize hwd : World.drewN w1 _ = wd
  have HB2 : Hid (Below w.heap.size w wd) := by subst hwd; exact Lib.hid (below_drewN HB.out _)
  clear hwd
  go_wp2_with fail
  exact bodyPost_ret (fields_results rfl rfl rfl) rfl ⟨rfl, HB2.out⟩

/-- The parser over any source at the top. -/
theorem parseTop_any {w : World} {b : Nat} {sao : Option Addr} {scap : Nat} {zs : List Int} {s : Nat} (h : Scan w b sao scap zs 0 s) (hl : zs.length ≤ 4194304) {must : Bool} {l : List Pt} {tl : Bool} {cf : Nat} (hP : PTop zs true 0 must (.ok l tl cf)) :
    Calls Tryf.prog 19 #[.pointer (some ⟨b, 0, none⟩), .bool true] w (PatPost w b sao scap zs must tl l cf) := by
  rcases Nat.eq_zero_or_pos zs.length with h0 | h0
  · obtain rfl : zs = [] := List.length_eq_zero_iff.1 h0
    have hc : ∀ c, chr ([] : List Int) c = -1 := fun c => by unfold chr; rw [if_neg (by simp)]
    rcases hP with ⟨_, h94, _⟩ | ⟨_, rfl, hr⟩
    · rw [hc] at h94; omega
    · have : l = [] ∧ tl = false ∧ cf = 1 := by
        have key : ∀ (acc : List Pt) (r : PR), acc = [] → PRun [] true 0 acc false r → r = .ok [] false 1 := by
          intro acc r ha hr
          cases hr with
          | fin _ => rw [ha]; rfl
          | closeTop h1 => rw [hc] at h1; omega
          | idx h1 => rw [hc] at h1; omega
          | num h1 => rw [hc] at h1; omega
          | brace h1 => rw [hc] at h1; omega
          | esc h1 => rw [hc] at h1; omega
          | cls h1 => rw [hc] at h1; omega
          | clsErr h1 => rw [hc] at h1; omega
          | posc h1 => rw [hc] at h1; omega
          | capt h1 => rw [hc] at h1; omega
          | capOpen h1 => rw [hc] at h1; omega
          | capErr h1 => rw [hc] at h1; omega
          | quant h1 => rw [hc] at h1; omega
          | quantLit h1 => rw [hc] at h1; omega
          | tail h1 => rw [hc] at h1; omega
          | dollar h1 => rw [hc] at h1; omega
          | lit h1 => simp at h1
        have := key [] _ rfl hr
        injection this with h1 h2 h3
        exact ⟨h1, h2, h3⟩
      obtain ⟨rfl, rfl, rfl⟩ := this
      exact parsePat_nil h
  · exact parsePat_any h h0 hl hP
theorem progPost_from {w w3 w4 : World} {J : List Ins} {e : Ending} (hb : Below w.heap.size w w3) (h : ProgPost w3 J e w4) : ProgPost w J e w4 := by
  obtain ⟨m, ao, cap, ys, he, hown, hels, hb4, hg, hm⟩ := h
  exact ⟨m, ao, cap, ys, he, hown, hels, hb.trans (hb4.mono hb.size), fun g h => Nat.le_trans hb.size (hg g h), Nat.le_trans hb.size hm⟩
set_option maxHeartbeats 1000000 in
theorem comp60_any (s : ByteArray) (w : World) (hs : s.size ≤ 1048576) {must tl : Bool} {l : List Pt} {cf : Nat} (hP : PTop (bz s) true 0 must (.ok l tl cf)) {I' : List Ins} {k' : Nat} (hr : CRun l [.save 0] 2 I' k') (hl : I'.length ≤ 8388608) (hk : k' ≤ 1073741824) :
    Calls Tryf.prog 11 #[.string s] w (ProgPost w (progOf tl I')) := by
  have hcv := Lib.run_convert_string_bytes (P := Tryf.prog) w 9 48 5 s Tryf.underlying9 Tryf.underlying48 Tryf.underlying5
  have HB1 := Lib.hid (bytes_below w 5 s)
  have HC1 := Lib.hid (bytes_cells w 5 s)
  have HP := Lib.hid hP
  have HR := Lib.hid hr
  have HL := Lib.hid (bz_length s)
  clear hP hr
  generalize hw1 : Lib.bytesWorld w 5 s = w1 at *
  generalize hg : grownCap w s.size 0 5 = gc at *
  clear hw1 hg
  go_enter Tryf.func11, Tryf.ntmps11
  go_wp2_with fail
  refine (newScan_any _ _ _ _).mono ?_
  rintro e w2 ⟨rfl, rfl⟩
  have hs2 : Scan (w1.alloc (.cells #[.slice (some ⟨w.heap.size, 0, none⟩) (bz s).length gc, .int .i64 0, .bool false, .int .i64 0, .bool false] 62)) w1.heap.size (some ⟨w.heap.size, 0, none⟩) gc (bz s) 0 0 :=
    Scan.new (fun _ => ⟨_, _, rfl, HC1.out⟩) (by rw [HL.out]; omega) (bz_byte s)
  rw [HL.out] at hs2
  have HS2 := Lib.hid hs2
  have HB2 := Lib.hid (HB1.out.alloc HB1.out.size (.cells #[.slice (some ⟨w.heap.size, 0, none⟩) s.size gc, .int .i64 0, .bool false, .int .i64 0, .bool false] 62))
  clear hs2 hcv
  have hgt : w.heap.size ≤ w1.heap.size := HB1.out.size
  generalize w1.alloc (.cells #[.slice (some ⟨w.heap.size, 0, none⟩) s.size gc, .int .i64 0, .bool false, .int .i64 0, .bool false] 62) = w2 at *
  generalize w1.heap.size = sb at *
  go_wp2_with fail
  refine (parseTop_any HS2.out (by rw [HL.out]; omega) HP.out).mono ?_
  rintro e w3 ⟨q, aq, cap, vs, s', rfl, hq, hpo, hs3, hg3⟩
  have HB3 := Lib.hid (HB2.out.trans (one_below hg3 hgt HB2.out.size))
  have HPO := Lib.hid hpo
  clear hpo hs3 hg3
  go_wp2_with fail
  refine (compTop_any HPO.out.blk (owns_base HPO.out.own (Nat.zero_le _)) (HPO.out.els.kept (fun _ _ _ h => h) (fun _ _ h => h.elim)) HR.out hl hk).mono ?_
  rintro e w4 h4
  have HP4 := Lib.hid (progPost_from HB3.out h4)
  obtain ⟨m, ao, cap4, ys, rfl, h⟩ := h4
  clear h
  go_wp2_with fail
  go_ret
  exact HP4.out

theorem cnt_le (D : List Ins) (s : Nat) : cntL D s ≤ D.length := List.countP_le_length
theorem top_next {J : List Ins} {k : Nat} {i : Ins} (h : J[k]? = some i) : topF J (k + 1) = topI (topF J k) i := by simp [topF, h]
theorem top_le {J : List Ins} {b : Nat} (h : ∀ i, i ∈ J → i.okIn J.length b) : ∀ k, k ≤ J.length → topF J k ≤ b + 1
  | 0, _ => by simp [topF]
  | k + 1, hk => by
    have ih := top_le h k (by omega)
    have hi : J[k]? = some J[k] := List.getElem?_eq_getElem (by omega)
    have ho := h J[k] (List.getElem_mem _)
    rw [top_next hi]
    generalize J[k] = i at *
    cases i <;> simp only [topI, Ins.okIn] at * <;> first | omega | (split <;> omega)
/-- What the first loop's rounds may lean on. -/
structure LEnv (w4 : World) (J : List Ins) (B ig M g1 g2 g3 : Nat) : Prop where
  prog : ProgAt w4 ig J
  igB : ig < B
  Bs : B ≤ w4.heap.size
  g1B : B ≤ g1
  g2B : B ≤ g2
  g3B : B ≤ g3
  dis : g1 ≠ g2 ∧ g1 ≠ g3 ∧ g2 ≠ g3
  small : J.length ≤ 40000
  two : M = 2 * J.length + 4
  ok : ∀ i, i ∈ J → i.okIn J.length (2 * J.length + 2)
/-- The three rows behind k instructions. -/
structure LRows (w4 wr : World) (J : List Ins) (B M g1 g2 g3 k : Nat) : Prop where
  cnt : wr.rowIs g1 3 M (fun j => .int .i64 (cntL (J.take k) j : Int))
  ats : wr.rowIs g2 3 M (fun j => .int .i64 (atF J k j : Int))
  ps : wr.rowIs g3 4 M (fun j => .bool (hasP (J.take k) j))
  below0 : Below B w4 wr
theorem LRows.below {w4 wr w5 : World} {J : List Ins} {B M g1 g2 g3 k : Nat} (h : LRows w4 wr J B M g1 g2 g3 k) (hb : Below wr.heap.size wr w5) (hB : B ≤ w4.heap.size) : LRows w4 w5 J B M g1 g2 g3 k :=
  ⟨h.cnt.of_block (hb.block _ h.cnt.lt), h.ats.of_block (hb.block _ h.ats.lt), h.ps.of_block (hb.block _ h.ps.lt), h.below0.trans (hb.mono (Nat.le_trans hB h.below0.size))⟩
theorem touch_at {J : List Ins} {k : Nat} {i : Ins} (h : J[k]? = some i) (x : Nat) : atF J (k + 1) x = if i.touch x = true then k else atF J k x := by simp [atF, touchAt, h]
theorem LRows.plain {w4 wr : World} {J : List Ins} {B M g1 g2 g3 k : Nat} {i : Ins} (h : LRows w4 wr J B M g1 g2 g3 k) (hi : J[k]? = some i) (ht : ∀ x, i.touch x = false) (hp : ∀ x, i.isP x = false) : LRows w4 wr J B M g1 g2 g3 (k + 1) := by
  refine ⟨h.cnt.congr fun j _ => ?_, h.ats.congr fun j _ => ?_, h.ps.congr fun j _ => ?_, h.below0⟩
  · rw [cnt_step hi, ht]; simp
  · rw [touch_at hi, ht]; simp
  · rw [hasP_step hi, hp]; simp
theorem save_rows {w4 w7 : World} {J : List Ins} {B M g1 g2 g3 k n : Nat} (hi : J[k]? = some (.save n)) (h2 : 2 ≤ n) (hc : w7.rowIs g1 3 M (fun j => if j = n then .int .i64 ((cntL (J.take k) n : Int) + 1) else .int .i64 (cntL (J.take k) j : Int)))
    (ha : w7.rowIs g2 3 M (fun j => if j = n then .int .i64 (k : Int) else .int .i64 (atF J k j : Int))) (hp : w7.rowIs g3 4 M (fun j => .bool (hasP (J.take k) j))) (hb : Below B w4 w7) : LRows w4 w7 J B M g1 g2 g3 (k + 1) := by
  refine ⟨hc.congr fun j _ => ?_, ha.congr fun j _ => ?_, hp.congr fun j _ => ?_, hb⟩
  · rw [cnt_step hi]
    by_cases hj : j = n
    · subst hj; rw [if_pos rfl, if_pos (by simp [Ins.touch, h2])]; rfl
    · rw [if_neg hj, if_neg (by simp [Ins.touch, hj])]; rfl
  · rw [touch_at hi]
    by_cases hj : j = n
    · subst hj; rw [if_pos rfl, if_pos (by simp [Ins.touch, h2])]
    · rw [if_neg hj, if_neg (by simp [Ins.touch, hj])]
  · rw [hasP_step hi]; simp [Ins.isP]
theorem psave_rows {w4 w7 : World} {J : List Ins} {B M g1 g2 g3 k n : Nat} (hi : J[k]? = some (.psave n)) (h2 : 2 ≤ n) (hc : w7.rowIs g1 3 M (fun j => if j = n + 1 then .int .i64 ((cntL (J.take k) (n + 1) : Int) + 1) else if j = n then .int .i64 ((cntL (J.take k) n : Int) + 1) else .int .i64 (cntL (J.take k) j : Int)))
    (ha : w7.rowIs g2 3 M (fun j => if j = n + 1 then .int .i64 (k : Int) else if j = n then .int .i64 (k : Int) else .int .i64 (atF J k j : Int))) (hp : w7.rowIs g3 4 M (fun j => if j = n then .bool true else .bool (hasP (J.take k) j))) (hb : Below B w4 w7) : LRows w4 w7 J B M g1 g2 g3 (k + 1) := by
  refine ⟨hc.congr fun j _ => ?_, ha.congr fun j _ => ?_, hp.congr fun j _ => ?_, hb⟩
  · rw [cnt_step hi]
    by_cases hj1 : j = n + 1
    · subst hj1; rw [if_pos rfl, if_pos (by simp [Ins.touch, h2])]; rfl
    by_cases hj : j = n
    · subst hj; rw [if_neg hj1, if_pos rfl, if_pos (by simp [Ins.touch, h2])]; rfl
    · rw [if_neg hj1, if_neg hj, if_neg (by simp [Ins.touch, hj, hj1])]; rfl
  · rw [touch_at hi]
    by_cases hj1 : j = n + 1
    · subst hj1; rw [if_pos rfl, if_pos (by simp [Ins.touch, h2])]
    by_cases hj : j = n
    · subst hj; rw [if_neg hj1, if_pos rfl, if_pos (by simp [Ins.touch, h2])]
    · rw [if_neg hj1, if_neg hj, if_neg (by simp [Ins.touch, hj, hj1])]
  · rw [hasP_step hi]
    by_cases hj : j = n
    · subst hj; rw [if_pos rfl]; simp [Ins.isP]
    · rw [if_neg hj]; simp [Ins.isP, Ne.symm hj]
noncomputable def lawBody : Code := ((Tryf.f4.body.bind firstLoop).getD .skip)
structure LFr (s : ByteArray) (J : List Ins) (ig icap M g1 g2 g3 : Nat) (a : Act) : Prop where
  df : a.defers = []
  sz : a.tmps.size = 247
  s0 : a.tmps[0]? = some (.string s)
  s8 : a.tmps[8]? = some (.slice (some ⟨ig, 0, none⟩) J.length icap)
  s9 : a.tmps[9]? = some (.int .i64 (J.length : Int))
  s19 : a.tmps[19]? = some (.slice (some ⟨g1, 0, none⟩) M M)
  s20 : a.tmps[20]? = some (.slice (some ⟨g2, 0, none⟩) M M)
  s21 : a.tmps[21]? = some (.slice (some ⟨g3, 0, none⟩) M M)
def LRel (w4 : World) (J : List Ins) (B M g1 g2 g3 : Nat) (wr : World) (k : Nat) (a : Act) : Prop :=
  a.tmps[22]? = some (.int .i64 (topF J k : Int)) ∧ a.tmps[23]? = some (.int .i64 (k : Int)) ∧ LRows w4 wr J B M g1 g2 g3 k
def LQ (w4 : World) (s : ByteArray) (J : List Ins) (B ig icap M g1 g2 g3 : Nat) : Exit → Act → World → Prop
  | .exit id, a, w' => id = 0 ∧ LFr s J ig icap M g1 g2 g3 a ∧ LRel w4 J B M g1 g2 g3 w' J.length a
  | _, _, _ => False
theorem int_is' {a b : Int} (h : a = b) : some (Value.int .i64 a) = some (.int .i64 b) := by rw [h]
theorem larr_range (xs : Array Value) (n : Nat) (h : xs.size = n) (g : Nat → Value) (hg : ∀ k, k < n → xs[k]? = some (g k)) : xs = ((List.range n).map g).toArray := by
  apply Array.ext
  · simp [h]
  · intro i h1 h2
    have := hg i (by omega)
    rw [Array.getElem?_eq_getElem h1] at this
    simpa using this
set_option maxRecDepth 1000000 in
theorem llit_range (g : Nat → Value) : ((List.range 247).map g).toArray = #[g 0, g 1, g 2, g 3, g 4, g 5, g 6, g 7, g 8, g 9, g 10, g 11, g 12, g 13, g 14, g 15, g 16, g 17, g 18, g 19, g 20, g 21, g 22, g 23, g 24, g 25, g 26, g 27, g 28, g 29, g 30, g 31, g 32, g 33, g 34, g 35, g 36, g 37, g 38, g 39, g 40, g 41, g 42, g 43, g 44, g 45, g 46, g 47, g 48, g 49, g 50, g 51, g 52, g 53, g 54, g 55, g 56, g 57, g 58, g 59, g 60, g 61, g 62, g 63, g 64, g 65, g 66, g 67, g 68, g 69, g 70, g 71, g 72, g 73, g 74, g 75, g 76, g 77, g 78, g 79, g 80, g 81, g 82, g 83, g 84, g 85, g 86, g 87, g 88, g 89, g 90, g 91, g 92, g 93, g 94, g 95, g 96, g 97, g 98, g 99, g 100, g 101, g 102, g 103, g 104, g 105, g 106, g 107, g 108, g 109, g 110, g 111, g 112, g 113, g 114, g 115, g 116, g 117, g 118, g 119, g 120, g 121, g 122, g 123, g 124, g 125, g 126, g 127, g 128, g 129, g 130, g 131, g 132, g 133, g 134, g 135, g 136, g 137, g 138, g 139, g 140, g 141, g 142, g 143, g 144, g 145, g 146, g 147, g 148, g 149, g 150, g 151, g 152, g 153, g 154, g 155, g 156, g 157, g 158, g 159, g 160, g 161, g 162, g 163, g 164, g 165, g 166, g 167, g 168, g 169, g 170, g 171, g 172, g 173, g 174, g 175, g 176, g 177, g 178, g 179, g 180, g 181, g 182, g 183, g 184, g 185, g 186, g 187, g 188, g 189, g 190, g 191, g 192, g 193, g 194, g 195, g 196, g 197, g 198, g 199, g 200, g 201, g 202, g 203, g 204, g 205, g 206, g 207, g 208, g 209, g 210, g 211, g 212, g 213, g 214, g 215, g 216, g 217, g 218, g 219, g 220, g 221, g 222, g 223, g 224, g 225, g 226, g 227, g 228, g 229, g 230, g 231, g 232, g 233, g 234, g 235, g 236, g 237, g 238, g 239, g 240, g 241, g 242, g 243, g 244, g 245, g 246] := by kernel_rfl
set_option maxRecDepth 1000000 in
theorem lframe_lit (xs : Array Value) (h : xs.size = 247) {v0 v8 v9 v19 v20 v21 v22 v23 : Value} (h0 : xs[0]? = some v0) (h8 : xs[8]? = some v8) (h9 : xs[9]? = some v9) (h19 : xs[19]? = some v19) (h20 : xs[20]? = some v20) (h21 : xs[21]? = some v21) (h22 : xs[22]? = some v22) (h23 : xs[23]? = some v23) : ∃ f : Nat → Value, xs = #[v0, f 1, f 2, f 3, f 4, f 5, f 6, f 7, v8, v9, f 10, f 11, f 12, f 13, f 14, f 15, f 16, f 17, f 18, v19, v20, v21, v22, v23, f 24, f 25, f 26, f 27, f 28, f 29, f 30, f 31, f 32, f 33, f 34, f 35, f 36, f 37, f 38, f 39, f 40, f 41, f 42, f 43, f 44, f 45, f 46, f 47, f 48, f 49, f 50, f 51, f 52, f 53, f 54, f 55, f 56, f 57, f 58, f 59, f 60, f 61, f 62, f 63, f 64, f 65, f 66, f 67, f 68, f 69, f 70, f 71, f 72, f 73, f 74, f 75, f 76, f 77, f 78, f 79, f 80, f 81, f 82, f 83, f 84, f 85, f 86, f 87, f 88, f 89, f 90, f 91, f 92, f 93, f 94, f 95, f 96, f 97, f 98, f 99, f 100, f 101, f 102, f 103, f 104, f 105, f 106, f 107, f 108, f 109, f 110, f 111, f 112, f 113, f 114, f 115, f 116, f 117, f 118, f 119, f 120, f 121, f 122, f 123, f 124, f 125, f 126, f 127, f 128, f 129, f 130, f 131, f 132, f 133, f 134, f 135, f 136, f 137, f 138, f 139, f 140, f 141, f 142, f 143, f 144, f 145, f 146, f 147, f 148, f 149, f 150, f 151, f 152, f 153, f 154, f 155, f 156, f 157, f 158, f 159, f 160, f 161, f 162, f 163, f 164, f 165, f 166, f 167, f 168, f 169, f 170, f 171, f 172, f 173, f 174, f 175, f 176, f 177, f 178, f 179, f 180, f 181, f 182, f 183, f 184, f 185, f 186, f 187, f 188, f 189, f 190, f 191, f 192, f 193, f 194, f 195, f 196, f 197, f 198, f 199, f 200, f 201, f 202, f 203, f 204, f 205, f 206, f 207, f 208, f 209, f 210, f 211, f 212, f 213, f 214, f 215, f 216, f 217, f 218, f 219, f 220, f 221, f 222, f 223, f 224, f 225, f 226, f 227, f 228, f 229, f 230, f 231, f 232, f 233, f 234, f 235, f 236, f 237, f 238, f 239, f 240, f 241, f 242, f 243, f 244, f 245, f 246] := by
  have hf : ∀ k, k < 247 → xs[k]? = some (xs.getD k .nilIface) := fun k hk => by
    rw [Array.getD_eq_getD_getElem?, Array.getElem?_eq_getElem (by omega)]; rfl
  refine ⟨fun k => xs.getD k .nilIface, ?_⟩
  have e := (larr_range xs 247 h _ hf).trans (llit_range _)
  have e0 : xs.getD 0 .nilIface = v0 := by rw [Array.getD_eq_getD_getElem?, h0]; rfl
  have e8 : xs.getD 8 .nilIface = v8 := by rw [Array.getD_eq_getD_getElem?, h8]; rfl
  have e9 : xs.getD 9 .nilIface = v9 := by rw [Array.getD_eq_getD_getElem?, h9]; rfl
  have e19 : xs.getD 19 .nilIface = v19 := by rw [Array.getD_eq_getD_getElem?, h19]; rfl
  have e20 : xs.getD 20 .nilIface = v20 := by rw [Array.getD_eq_getD_getElem?, h20]; rfl
  have e21 : xs.getD 21 .nilIface = v21 := by rw [Array.getD_eq_getD_getElem?, h21]; rfl
  have e22 : xs.getD 22 .nilIface = v22 := by rw [Array.getD_eq_getD_getElem?, h22]; rfl
  have e23 : xs.getD 23 .nilIface = v23 := by rw [Array.getD_eq_getD_getElem?, h23]; rfl
  subst e0 e8 e9 e19 e20 e21 e22 e23
  exact e
end Go.Proofs.YtejankffdmahnaaFmt
