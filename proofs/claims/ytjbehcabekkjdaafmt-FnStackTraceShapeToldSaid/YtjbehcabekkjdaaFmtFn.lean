/-
  A frame's function as it lies in memory; the contract of zzFn. Its condition: the frames lie in memory.
-/
import Derived.Test.YtjbehcabekkjdaaFmtCopy
import Derived.IntWalk
import Derived.Outline
namespace Go.Proofs.YtjbehcabekkjdaaFmt
open Go.RowKit
set_option linter.unusedVariables false
set_option linter.unusedSimpArgs false

/-- The calls that a caller has recorded for the frame above it. -/
def callsOf (nx : Option Fr) : List (ByteArray × Int) :=
  match nx with
  | none => []
  | some f => if f.name.data.toList = [] then [] else [(⟨#[122, 122, 100, 101, 99, 111, 121]⟩, 7), (f.name, f.cpc)] ++ (if f.cpc = 0 then [(⟨#[122, 122, 115, 104, 97, 100, 111, 119]⟩, 0)] else [])
def CallsAt (w : World) (B : Nat) (ao : Option Addr) (cs : List (ByteArray × Int)) : Prop :=
  0 < cs.length → ∃ d, ao = some ⟨d, 0, none⟩ ∧ B ≤ d ∧ d < w.heap.size ∧ ∀ j, (h : j < cs.length) → w.cell? ⟨d, j * 2, none⟩ = some (.string cs[j].1) ∧ w.cell? ⟨d, j * 2 + 1, none⟩ = some (.int .i64 cs[j].2)
/-- A frame's function at block p; none of its blocks lies below B. -/
def FnAt (w : World) (B p : Nat) (f : Fr) (cs : List (ByteArray × Int)) (src : ByteArray) (ld : Int) : Prop :=
  B ≤ p ∧ p < w.heap.size ∧ w.cell? ⟨p, 0, none⟩ = some (.bool f.g) ∧ (f.g = true → w.cell? ⟨p, 2, none⟩ = some (.pointer none)) ∧
    (f.g = false → ∃ q l ao cap, B ≤ q ∧ q < w.heap.size ∧ B ≤ l ∧ l < w.heap.size ∧ w.cell? ⟨p, 2, none⟩ = some (.pointer (some ⟨q, 0, none⟩)) ∧ w.cell? ⟨q, 0, none⟩ = some (.string src) ∧ w.cell? ⟨q, 1, none⟩ = some (.int .i64 ld) ∧
      w.cell? ⟨q, 10, none⟩ = some (.slice (some ⟨l, 0, none⟩) 1 1) ∧ w.cell? ⟨l, 0, none⟩ = some (.int .i64 f.line) ∧ w.cell? ⟨q, 12, none⟩ = some (.slice ao cs.length cap) ∧ CallsAt w B ao cs)
theorem CallsAt.kept {w w' : World} {B : Nat} {ao : Option Addr} {cs : List (ByteArray × Int)} (h : CallsAt w B ao cs) (hk : ∀ g i, B ≤ g → g < w.heap.size → w'.cell? ⟨g, i, none⟩ = w.cell? ⟨g, i, none⟩) (hs : w.heap.size ≤ w'.heap.size) : CallsAt w' B ao cs := fun h0 => by
  obtain ⟨d, h1, h2, h3, h4⟩ := h h0
  exact ⟨d, h1, h2, Nat.lt_of_lt_of_le h3 hs, fun j hj => ⟨(hk d _ h2 h3).trans (h4 j hj).1, (hk d _ h2 h3).trans (h4 j hj).2⟩⟩
theorem FnAt.kept {w w' : World} {B p : Nat} {f : Fr} {cs : List (ByteArray × Int)} {src : ByteArray} {ld : Int} (h : FnAt w B p f cs src ld) (hk : ∀ g i, B ≤ g → g < w.heap.size → w'.cell? ⟨g, i, none⟩ = w.cell? ⟨g, i, none⟩) (hs : w.heap.size ≤ w'.heap.size) : FnAt w' B p f cs src ld := by
  obtain ⟨h1, h2, h3, h4, h5⟩ := h
  refine ⟨h1, Nat.lt_of_lt_of_le h2 hs, (hk p _ h1 h2).trans h3, fun hg => (hk p _ h1 h2).trans (h4 hg), fun hg => ?_⟩
  obtain ⟨q, l, ao, cap, a1, a2, a3, a4, a5, a6, a7, a8, a9, a10, a11⟩ := h5 hg
  exact ⟨q, l, ao, cap, a1, Nat.lt_of_lt_of_le a2 hs, a3, Nat.lt_of_lt_of_le a4 hs, (hk p _ h1 h2).trans a5, (hk q _ a1 a2).trans a6, (hk q _ a1 a2).trans a7, (hk q _ a1 a2).trans a8, (hk l _ a3 a4).trans a9, (hk q _ a1 a2).trans a10, a11.kept hk hs⟩
theorem FnAt.mono {w : World} {B B' p : Nat} {f : Fr} {cs : List (ByteArray × Int)} {src : ByteArray} {ld : Int} (h : FnAt w B p f cs src ld) (hB : B' ≤ B) : FnAt w B' p f cs src ld := by
  obtain ⟨h1, h2, h3, h4, h5⟩ := h
  refine ⟨Nat.le_trans hB h1, h2, h3, h4, fun hg => ?_⟩
  obtain ⟨q, l, ao, cap, a1, a2, a3, a4, a5, a6, a7, a8, a9, a10, a11⟩ := h5 hg
  exact ⟨q, l, ao, cap, Nat.le_trans hB a1, a2, Nat.le_trans hB a3, a4, a5, a6, a7, a8, a9, a10, fun h0 => by obtain ⟨d, b1, b2, b3⟩ := a11 h0; exact ⟨d, b1, Nat.le_trans hB b2, b3⟩⟩
/-- What zzFn gives. -/
def FnPost (w : World) (f : Fr) (cs : List (ByteArray × Int)) (src : ByteArray) (ld : Int) (e : Ending) (w' : World) : Prop :=
  ∃ p, e = .returned (.pointer (some ⟨p, 0, none⟩)) ∧ FnAt w' w.heap.size p f cs src ld ∧ Below w.heap.size w w'
theorem call_info : (Tryf.prog.info? 78).map (fun i => (i.zero, i.size, i.bytes)) = some (some (.agg #[.string ⟨#[]⟩, .int .i64 0]), 2, 24) := by kernel_rfl
theorem fnPost_g {w : World} {fl ft fc : Int} {nm : ByteArray} {cs : List (ByteArray × Int)} {src : ByteArray} {ld : Int} : FnPost w ⟨true, fl, ft, nm, fc⟩ cs src ld (.returned (.pointer (some ⟨w.heap.size, 0, none⟩))) (w.alloc (.cells #[.bool true, .pointer none, .pointer none, .nilFunc, .slice none 0 0] 75)) :=
  ⟨w.heap.size, rfl, ⟨Nat.le_refl _, by simp, blk_cell (blk_new w _) 0 _ rfl, fun _ => blk_cell (blk_new w _) 2 _ rfl, fun h => by cases h⟩, (Below.refl _ _).alloc (Nat.le_refl _) _⟩
theorem news_two {W : World} {v u : Value} {T : TypeId} {n : Nat} (h : W.heap.size = n) : ∀ (j : Nat) (x : Value), [v, u][j]? = some x → (W.alloc (.cells #[v, u] T)).cell? ((⟨n, 0, none⟩ : Addr).add j) = some x := by
  subst h
  intro j x hj
  rw [addr_add, Nat.zero_add]
  refine blk_cell (blk_new _ _) j x ?_
  simpa using hj
theorem fn_one {w w3 : World} {o1 o2 : Obj} {row : Option Nat} (hr : row = none) (hg : ((w.alloc o1).alloc o2).grownBy w3 row) : Below w.heap.size w w3 ∧ w3.heap[w.heap.size]? = some o1 ∧ w.heap.size + 2 ≤ w3.heap.size := by
  subst hr
  have hs := hg.size
  simp only [World.alloc] at hs
  simp at hs
  refine ⟨(((Below.refl w.heap.size w).alloc (Nat.le_refl _) o1).alloc (by simp) o2).trans ⟨hg.os, hg.tape, hg.output, hg.size, fun i hi => hg.block i (by simp; omega) (by simp)⟩, ?_, by omega⟩
  exact blk_grown (blk_alloc (blk_new w o1) o2) hg (by simp)
theorem fn_two {w w3 w5 : World} {o1 o : Obj} {g : Nat} {row : Option Nat} (hr : row = some g) (hB : Below w.heap.size w w3 ∧ w3.heap[w.heap.size]? = some o1 ∧ w.heap.size + 2 ≤ w3.heap.size) (hgb : w.heap.size + 1 ≤ g) (hg : (w3.alloc o).grownBy w5 row) : Below w.heap.size w w5 ∧ w5.heap[w.heap.size]? = some o1 ∧ w.heap.size + 2 ≤ w5.heap.size := by
  subst hr
  obtain ⟨h1, h2, h3⟩ := hB
  have hs := hg.size
  have hs2 : (w3.alloc o).heap.size = w3.heap.size + 1 := by simp
  refine ⟨(h1.alloc (by omega) o).trans (one_below hg (by omega) (by omega)), blk_grown (blk_alloc h2 o) hg (by simp; omega), by omega⟩
theorem fn_line {w w7 : World} {b o : Nat} {v : Value} (hb : Below w.heap.size w w7) (hl : b < w.heap.size) (h : w.cell? ⟨b, o, none⟩ = some v) : w7.cell? ⟨b, o, none⟩ = some v := (hb.cell (p := ⟨b, o, none⟩) hl).trans h
theorem fnPost_f {w w7 : World} {fl ft fc : Int} {nm : ByteArray} {cs : List (ByteArray × Int)} {src : ByteArray} {ld : Int} {ao : Option Addr} {cap n : Nat} (hb : Below w.heap.size w w7) (hc : CallsAt w7 w.heap.size ao cs) (hn : n = cs.length) : FnPost w ⟨false, fl, ft, nm, fc⟩ cs src ld (.returned (.pointer (some ⟨w7.heap.size + 1 + 1, 0, none⟩)))
    (((w7.alloc (.cells #[.int .i64 fl] 3)).alloc (.cells #[.string src, .int .i64 ld, .int .i64 0, .int .u8 0, .int .u8 0, .int .u8 0, .int .u8 0, .slice none 0 0, .slice none 0 0, .slice none 0 0, .slice (some ⟨w7.heap.size, 0, none⟩) 1 1, .slice none 0 0, .slice ao n cap, .slice none 0 0, .slice none 0 0] 86)).alloc (.cells #[.bool false, .pointer none, .pointer (some ⟨w7.heap.size + 1, 0, none⟩), .nilFunc, .slice none 0 0] 75)) := by
  subst hn
  have hs := hb.size
  generalize hpr : (#[.string src, .int .i64 ld, .int .i64 0, .int .u8 0, .int .u8 0, .int .u8 0, .int .u8 0, .slice none 0 0, .slice none 0 0, .slice none 0 0, .slice (some ⟨w7.heap.size, 0, none⟩) 1 1, .slice none 0 0, .slice ao cs.length cap, .slice none 0 0, .slice none 0 0] : Array Value) = pr
  have s1 : (w7.alloc (.cells #[.int .i64 fl] 3)).heap.size = w7.heap.size + 1 := by simp
  have s2 : ((w7.alloc (.cells #[.int .i64 fl] 3)).alloc (.cells pr 86)).heap.size = w7.heap.size + 1 + 1 := by simp
  have b1 := blk_alloc (blk_alloc (blk_new w7 (.cells #[.int .i64 fl] 3)) (.cells pr 86)) (.cells #[.bool false, .pointer none, .pointer (some ⟨w7.heap.size + 1, 0, none⟩), .nilFunc, .slice none 0 0] 75)
  have b2 := blk_alloc (blk_new (w7.alloc (.cells #[.int .i64 fl] 3)) (.cells pr 86)) (.cells #[.bool false, .pointer none, .pointer (some ⟨w7.heap.size + 1, 0, none⟩), .nilFunc, .slice none 0 0] 75)
  have b3 := blk_new ((w7.alloc (.cells #[.int .i64 fl] 3)).alloc (.cells pr 86)) (.cells #[.bool false, .pointer none, .pointer (some ⟨w7.heap.size + 1, 0, none⟩), .nilFunc, .slice none 0 0] 75)
  rw [s1] at b2
  rw [s2] at b3
  have l1 := blk_lt b1
  have l2 := blk_lt b2
  have l3 := blk_lt b3
  have hbb := (((hb.alloc hs (.cells #[.int .i64 fl] 3)).alloc (by omega) (.cells pr 86)).alloc (by omega) (.cells #[.bool false, .pointer none, .pointer (some ⟨w7.heap.size + 1, 0, none⟩), .nilFunc, .slice none 0 0] 75))
  have hcc : CallsAt (((w7.alloc (.cells #[.int .i64 fl] 3)).alloc (.cells pr 86)).alloc (.cells #[.bool false, .pointer none, .pointer (some ⟨w7.heap.size + 1, 0, none⟩), .nilFunc, .slice none 0 0] 75)) w.heap.size ao cs := hc.kept (fun g i _ hg => by
    rw [World.cell?_alloc_lt _ _ _ (by show g < _; omega), World.cell?_alloc_lt _ _ _ (by show g < _; omega), World.cell?_alloc_lt _ _ _ hg]) (by omega)
  generalize ((w7.alloc (.cells #[.int .i64 fl] 3)).alloc (.cells pr 86)).alloc (.cells #[.bool false, .pointer none, .pointer (some ⟨w7.heap.size + 1, 0, none⟩), .nilFunc, .slice none 0 0] 75) = w8 at *
  subst hpr
  exact ⟨_, rfl, ⟨by omega, l3, blk_cell b3 0 _ rfl, fun h => (by cases h), fun _ => ⟨w7.heap.size + 1, w7.heap.size, ao, cap, by omega, l2, hs, l1, blk_cell b3 2 _ rfl, blk_cell b2 0 _ rfl, blk_cell b2 1 _ rfl, blk_cell b2 10 _ rfl, blk_cell b1 0 _ rfl, blk_cell b2 12 _ rfl, hcc⟩⟩, hbb⟩
theorem callsAt_nil {w : World} {B : Nat} {ao : Option Addr} : CallsAt w B ao [] := fun h => absurd h (Nat.lt_irrefl _)
theorem callsAt_two {w : World} {B g cap : Nat} {s1 s2 : ByteArray} {i1 i2 : Int} (h : w.ownsRow (B + 1) 78 2 (.slice (some ⟨g, 0, none⟩) 2 cap) 2 [.string s1, .int .i64 i1, .string s2, .int .i64 i2]) : CallsAt w B (some ⟨g, 0, none⟩) [(s1, i1), (s2, i2)] := fun _ => by
  obtain ⟨c, hc⟩ := own_type h g rfl
  have hg : B + 1 ≤ g := by
    rcases h.2 with ⟨h1, _⟩ | ⟨g', c', cur, h1, hb, _⟩
    · simp at h1
    · simp only [Value.slice.injEq, Option.some.injEq, Addr.mk.injEq, and_true] at h1; omega
  refine ⟨g, rfl, by omega, blk_lt hc, fun j hj => ?_⟩
  rcases (show j = 0 ∨ j = 1 by simp at hj; omega) with rfl | rfl
  · exact ⟨h.cellAt 0 (by omega), h.cellAt 1 (by omega)⟩
  · exact ⟨h.cellAt 2 (by omega), h.cellAt 3 (by omega)⟩
theorem callsAt_three {w : World} {B g cap : Nat} {s1 s2 s3 : ByteArray} {i1 i2 i3 : Int} (h : w.ownsRow (B + 1) 78 2 (.slice (some ⟨g, 0, none⟩) 3 cap) 3 [.string s1, .int .i64 i1, .string s2, .int .i64 i2, .string s3, .int .i64 i3]) : CallsAt w B (some ⟨g, 0, none⟩) [(s1, i1), (s2, i2), (s3, i3)] := fun _ => by
  obtain ⟨c, hc⟩ := own_type h g rfl
  have hg : B + 1 ≤ g := by
    rcases h.2 with ⟨h1, _⟩ | ⟨g', c', cur, h1, hb, _⟩
    · simp at h1
    · simp only [Value.slice.injEq, Option.some.injEq, Addr.mk.injEq, and_true] at h1; omega
  refine ⟨g, rfl, by omega, blk_lt hc, fun j hj => ?_⟩
  rcases (show j = 0 ∨ j = 1 ∨ j = 2 by simp at hj; omega) with rfl | rfl | rfl
  · exact ⟨h.cellAt 0 (by omega), h.cellAt 1 (by omega)⟩
  · exact ⟨h.cellAt 2 (by omega), h.cellAt 3 (by omega)⟩
  · exact ⟨h.cellAt 4 (by omega), h.cellAt 5 (by omega)⟩
theorem owns_lt {w : World} {B : Nat} {T : TypeId} {sz : Nat} {ao : Option Addr} {n cap : Nat} {xs : List Value} (ho : w.ownsRow B T sz (.slice ao n cap) n xs) : ∀ g, blkOf ao = some g → B ≤ g ∧ g < w.heap.size := by
  intro g hg
  rcases ho.2 with ⟨h1, _⟩ | ⟨g', c, cur, h1, hb, hc, _⟩
  · simp only [Value.slice.injEq] at h1
    rw [h1.1] at hg; cases hg
  · simp only [Value.slice.injEq] at h1
    rw [h1.1] at hg
    simp only [blkOf, Option.map_some, Option.some.injEq] at hg
    subst hg
    exact ⟨hb, blk_lt hc⟩
set_option maxRecDepth 100000 in
set_option maxHeartbeats 2000000 in
theorem fn_any (a : Option Addr) (cap : Nat) (fs : List Fr) (k : Nat) (src : ByteArray) (ld : Int) (w : World) (h : FrsAt w a fs) (hk : k < fs.length) (hl : fs.length ≤ 4096) {cs : List (ByteArray × Int)} (hcs : Hid (callsOf (if k + 1 < fs.length then some fs[k + 1]! else none) = cs)) :
    Calls Tryf.prog 25 #[.slice a fs.length cap, .int .i64 k, .string src, .int .i64 ld] w (FnPost w fs[k]! cs src ld) := by
  obtain ⟨b, off, rfl, hbl, hc⟩ := h (by omega)
  obtain ⟨h0, h1, h2, h3, h4⟩ := hc k hk
  obtain ⟨⟨fg, fl, ft, nm, fc⟩, hfe⟩ : ∃ f, fs[k]! = f := ⟨_, rfl⟩
  rw [hfe] at h0 h1 ⊢
  simp only at h0 h1
  clear h2 h3 h4 h
  have h5 : (k : Int) < (fs.length : Int) := by omega
  have HC := Lib.hid hc
  have HBL := Lib.hid hbl
  clear hc hfe hbl
  cases fg with
  | true =>
    clear HC h1
    go_enter Tryf.func25, Tryf.ntmps25
    go_wp2_with fail
    go_ret
    exact fnPost_g
  | false =>
    by_cases hn : k + 1 < fs.length
    · obtain ⟨g0, g1, g2, g3, g4⟩ := HC.out (k + 1) hn
      have HCS : Hid (callsOf (some fs[k + 1]!) = cs) := Lib.hid (by have := hcs.out; rwa [if_pos hn] at this)
      obtain ⟨⟨xg, xl, xt, xn, xc⟩, hxe⟩ : ∃ f, fs[k + 1]! = f := ⟨_, rfl⟩
      rw [hxe] at g0 g1 g2 g3 g4 HCS
      simp only at g0 g1 g2 g3 g4
      clear hxe hcs
      have t1 : decide ((k : Int) + 1 < (fs.length : Int)) = true := decide_eq_true (by omega)
      have h6 : (k : Int) + 1 < (fs.length : Int) := by omega
      have h7 : IntKind.i64.wrap ((k : Int) + 1) = (k : Int) + 1 := by rw [IntWalk.i64_in _ (by omega)]
      obtain ⟨i0, hi, hz0, hz1, hz2⟩ := info_parts' call_info
      by_cases he : xn.data.toList = []
      · have hcs0 : cs = [] := by rw [← HCS.out]; simp [callsOf, he]
        have tb1 : xn.toList.isEmpty = true := by rw [ByteArray.toList_eq, he]; rfl
        have tb2 : (!xn.toList.isEmpty) = false := by rw [tb1]; rfl
        have HE := Lib.hid he
        clear he
        subst hcs0
        clear HCS
        go_enter Tryf.func25, Tryf.ntmps25
        go_wp2_with fail
        go_ret
        exact fnPost_f (Below.refl _ _) callsAt_nil rfl
      · by_cases hx : xc = 0
        · have tb1 : xn.toList.isEmpty = false := by rw [ByteArray.toList_eq]; cases hh : xn.data.toList with | nil => exact absurd hh he | cons _ _ => rfl
          have tb2 : (!xn.toList.isEmpty) = true := by rw [tb1]; rfl
          have hcs0 : cs = [(⟨#[122, 122, 100, 101, 99, 111, 121]⟩, 7), (xn, xc), (⟨#[122, 122, 115, 104, 97, 100, 111, 119]⟩, 0)] := by rw [← HCS.out]; simp [callsOf, he, hx]
          have hxb : (xc == 0) = true := by simp [hx]
          subst hcs0
          clear HCS hx he
          go_enter Tryf.func25, Tryf.ntmps25
          go_wp2_with (first | (at_builtin; refine wpList_push _ rfl (.tmp 37) (.tmp 39) 76 rfl (w.heap.size + 1) 78 i0 (.agg #[.string ⟨#[]⟩, .int .i64 0]) 2 24 Tryf.underlying76 hi hz0 hz1 hz2 rfl (by decide) none 0 0 [] rfl ⟨rfl, .inl ⟨rfl, rfl⟩⟩ ⟨w.heap.size + 1, 0, none⟩ 1 1 [.string ⟨#[122, 122, 100, 101, 99, 111, 121]⟩, .int .i64 7] rfl rfl (news_two (by simp)) (fun u hu => by simp at hu; rcases hu with rfl | rfl <;> rfl) (by decide) (by unfold maxLen; omega) (by omega) (by first | omega | (simp; done) | (simp; omega)) ?_; intro g1 c1 w3 hown hgrow hat; have HO1 := Lib.hid hown; have HK1 := Lib.hid (fn_one rfl hgrow); have kk3 := blk_cell HK1.out.2.1 3 _ rfl; have kk4 := blk_cell HK1.out.2.1 4 _ rfl; have hz3 := HK1.out.2.2; have kl := fn_line HK1.out.1 HBL.out h1; have hg1 := (owns_lt HO1.out g1 rfl).1; clear hown hgrow hat) | (at_builtin; refine wpList_push _ rfl (.tmp 41) (.tmp 47) 76 rfl (w.heap.size + 1) 78 i0 (.agg #[.string ⟨#[]⟩, .int .i64 0]) 2 24 Tryf.underlying76 hi hz0 hz1 hz2 rfl (by decide) _ _ _ _ rfl (HO1.out.alloc _) ⟨w3.heap.size, 0, none⟩ 1 1 [.string xn, .int .i64 xc] rfl rfl (news_two (by simp)) (fun u hu => by simp at hu; rcases hu with rfl | rfl <;> rfl) (by decide) (by unfold maxLen; omega) (by omega) (by first | omega | (simp; done) | (simp; omega)) ?_; intro g2 c2 w5 hown hgrow hat; have HO2 := Lib.hid hown; have HK2 := Lib.hid (fn_two rfl HK1.out hg1 hgrow); have kk4 := blk_cell HK2.out.2.1 4 _ rfl; have hz5 := HK2.out.2.2; have kl := fn_line HK2.out.1 HBL.out h1; have hg2 := (owns_lt HO2.out g2 rfl).1; clear hown hgrow hat) | (at_builtin; refine wpList_push _ rfl (.tmp 52) (.tmp 54) 76 rfl (w.heap.size + 1) 78 i0 (.agg #[.string ⟨#[]⟩, .int .i64 0]) 2 24 Tryf.underlying76 hi hz0 hz1 hz2 rfl (by decide) _ _ _ _ rfl (HO2.out.alloc _) ⟨w5.heap.size, 0, none⟩ 1 1 [.string ⟨#[122, 122, 115, 104, 97, 100, 111, 119]⟩, .int .i64 0] rfl rfl (news_two (by simp)) (fun u hu => by simp at hu; rcases hu with rfl | rfl <;> rfl) (by decide) (by unfold maxLen; omega) (by omega) (by first | omega | (simp; done) | (simp; omega)) ?_; intro g3 c3 w7 hown hgrow hat; have HO3 := Lib.hid hown; have HK3 := Lib.hid (fn_two rfl HK2.out hg2 hgrow); have hz7 := HK3.out.2.2; have kl := fn_line HK3.out.1 HBL.out h1; clear hown hgrow hat))
          go_ret
          exact fnPost_f HK3.out.1 (callsAt_three HO3.out) rfl
        · have tb1 : xn.toList.isEmpty = false := by rw [ByteArray.toList_eq]; cases hh : xn.data.toList with | nil => exact absurd hh he | cons _ _ => rfl
          have tb2 : (!xn.toList.isEmpty) = true := by rw [tb1]; rfl
          have hcs0 : cs = [(⟨#[122, 122, 100, 101, 99, 111, 121]⟩, 7), (xn, xc)] := by rw [← HCS.out]; simp [callsOf, he, hx]
          have hxb : (xc == 0) = false := by simp [hx]
          subst hcs0
          clear HCS hx he
          go_enter Tryf.func25, Tryf.ntmps25
          go_wp2_with (first | (at_builtin; refine wpList_push _ rfl (.tmp 37) (.tmp 39) 76 rfl (w.heap.size + 1) 78 i0 (.agg #[.string ⟨#[]⟩, .int .i64 0]) 2 24 Tryf.underlying76 hi hz0 hz1 hz2 rfl (by decide) none 0 0 [] rfl ⟨rfl, .inl ⟨rfl, rfl⟩⟩ ⟨w.heap.size + 1, 0, none⟩ 1 1 [.string ⟨#[122, 122, 100, 101, 99, 111, 121]⟩, .int .i64 7] rfl rfl (news_two (by simp)) (fun u hu => by simp at hu; rcases hu with rfl | rfl <;> rfl) (by decide) (by unfold maxLen; omega) (by omega) (by first | omega | (simp; done) | (simp; omega)) ?_; intro g1 c1 w3 hown hgrow hat; have HO1 := Lib.hid hown; have HK1 := Lib.hid (fn_one rfl hgrow); have kk3 := blk_cell HK1.out.2.1 3 _ rfl; have kk4 := blk_cell HK1.out.2.1 4 _ rfl; have hz3 := HK1.out.2.2; have kl := fn_line HK1.out.1 HBL.out h1; have hg1 := (owns_lt HO1.out g1 rfl).1; clear hown hgrow hat) | (at_builtin; refine wpList_push _ rfl (.tmp 41) (.tmp 47) 76 rfl (w.heap.size + 1) 78 i0 (.agg #[.string ⟨#[]⟩, .int .i64 0]) 2 24 Tryf.underlying76 hi hz0 hz1 hz2 rfl (by decide) _ _ _ _ rfl (HO1.out.alloc _) ⟨w3.heap.size, 0, none⟩ 1 1 [.string xn, .int .i64 xc] rfl rfl (news_two (by simp)) (fun u hu => by simp at hu; rcases hu with rfl | rfl <;> rfl) (by decide) (by unfold maxLen; omega) (by omega) (by first | omega | (simp; done) | (simp; omega)) ?_; intro g2 c2 w5 hown hgrow hat; have HO2 := Lib.hid hown; have HK2 := Lib.hid (fn_two rfl HK1.out hg1 hgrow); have kk4 := blk_cell HK2.out.2.1 4 _ rfl; have hz5 := HK2.out.2.2; have kl := fn_line HK2.out.1 HBL.out h1; have hg2 := (owns_lt HO2.out g2 rfl).1; clear hown hgrow hat))
          go_ret
          exact fnPost_f HK2.out.1 (callsAt_two HO2.out) rfl
    · have hcs0 : cs = [] := by have := hcs.out; rw [if_neg hn] at this; exact this.symm
      subst hcs0
      clear hcs HC
      have t1 : decide ((k : Int) + 1 < (fs.length : Int)) = false := decide_eq_false (by omega)
      go_enter Tryf.func25, Tryf.ntmps25
      go_wp2_with fail
      go_ret
      exact fnPost_f (Below.refl _ _) callsAt_nil rfl
end Go.Proofs.YtjbehcabekkjdaaFmt
