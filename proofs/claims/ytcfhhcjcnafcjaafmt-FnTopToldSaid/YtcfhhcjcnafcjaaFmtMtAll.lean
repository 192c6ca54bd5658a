/-
  The contracts of MatchData's methods; the machine's relation; tokens' text parsed; the reference's match as a plain function and the law that the machine runs as it. Conditions as each statement says.
-/
import Derived.Test.YtcfhhcjcnafcjaaFmtBase
import Derived.Laws.BitsAllLaws
import Derived.Laws.BitsLemmas
import Derived.Deep.LoopGhost
import Derived.Test.YtcfhhcjcnafcjaaFmtPatAll
import Derived.Test.YtcfhhcjcnafcjaaFmtDecBase
namespace Go.Proofs.YtcfhhcjcnafcjaaFmt
open Go.RowKit
set_option linter.unusedVariables false
set_option linter.unusedSimpArgs false


/-- A MatchData at block m: its slice value, its words. -/
structure MD (w : World) (m : Nat) (ao : Option Addr) (cap : Nat) (us : List Int) : Prop where
  blk : w.heap[m]? = some (.cells #[.slice ao us.length cap] 79 (0, 0))
  own : w.ownsRow 0 80 1 (.slice ao us.length cap) us.length (us.map (Value.int .u32))
  bd : ∀ u, u ∈ us → 0 ≤ u ∧ u < 4294967296
  len : us.length ≤ 2147483648

theorem MD.lt {w : World} {m : Nat} {ao : Option Addr} {cap : Nat} {us : List Int} (h : MD w m ao cap us) : m < w.heap.size := blk_lt h.blk
/-- Where there is a word there is a row, at the head of a block that is not m. -/
theorem MD.row {w : World} {m : Nat} {ao : Option Addr} {cap : Nat} {us : List Int} (h : MD w m ao cap us) (h0 : 0 < us.length) : ∃ g, ao = some ⟨g, 0, none⟩ ∧ g ≠ m ∧ g < w.heap.size := by
  rcases h.own.2 with ⟨h1, h2⟩ | ⟨g, c, cur, h1, _, hg, _⟩
  · omega
  · simp only [Value.slice.injEq] at h1
    refine ⟨g, h1.1, ?_, blk_lt hg⟩
    rintro rfl
    have := h.blk
    rw [hg] at this
    simp at this
theorem MD.row' {w : World} {m : Nat} {ao : Option Addr} {cap : Nat} {us : List Int} (h : MD w m ao cap us) : ∀ g, blkOf ao = some g → g ≠ m ∧ g < w.heap.size := by
  intro g' hg'
  rcases h.own.2 with ⟨h1, h2⟩ | ⟨g, c, cur, h1, _, hg, _⟩
  · simp only [Value.slice.injEq] at h1
    rw [h1.1] at hg'; simp [blkOf] at hg'
  · simp only [Value.slice.injEq] at h1
    rw [h1.1] at hg'
    simp only [blkOf, Option.map_some, Option.some.injEq] at hg'
    subst hg'
    refine ⟨?_, blk_lt hg⟩
    rintro rfl
    have := h.blk
    rw [hg] at this
    simp at this
theorem MD.cell {w : World} {m g : Nat} {cap : Nat} {us : List Int} (h : MD w m (some ⟨g, 0, none⟩) cap us) (i : Nat) (hi : i < us.length) : w.cell? ⟨g, i, none⟩ = some (.int .u32 (us.getD i 0)) := by
  rw [h.own.cellAt i (by omega), List.getElem?_map, List.getElem?_eq_getElem hi, List.getD_eq_getElem?_getD, List.getElem?_eq_getElem hi]; rfl
theorem MD.free {w : World} {m g : Nat} {cap : Nat} {us : List Int} (h : MD w m (some ⟨g, 0, none⟩) cap us) (i : Nat) : w.frozen? ⟨g, i, none⟩ = false := h.own.frozenAt i
theorem MD.word {w : World} {m : Nat} {ao : Option Addr} {cap : Nat} {us : List Int} (h : MD w m ao cap us) (i : Nat) : 0 ≤ us.getD i 0 ∧ us.getD i 0 < 4294967296 := by
  rcases Nat.lt_or_ge i us.length with hi | hi
  · rw [List.getD_eq_getElem?_getD, List.getElem?_eq_getElem hi]; exact h.bd _ (List.getElem_mem hi)
  · rw [List.getD_eq_getElem?_getD, List.getElem?_eq_none hi]; simp

/-- What is written elsewhere leaves it. -/
theorem MD.kept {w w' : World} {m : Nat} {ao : Option Addr} {cap : Nat} {us : List Int} (h : MD w m ao cap us) (hm : w'.heap[m]? = w.heap[m]?) (hr : ∀ g, blkOf ao = some g → w'.heap[g]? = w.heap[g]?) : MD w' m ao cap us := by
  refine ⟨hm.trans h.blk, ⟨h.own.1, ?_⟩, h.bd, h.len⟩
  rcases h.own.2 with ⟨h1, h2⟩ | ⟨g, c, cur, h1, hb, hg, r⟩
  · exact .inl ⟨h1, h2⟩
  · refine .inr ⟨g, c, cur, h1, hb, (hr g ?_).trans hg, r⟩
    simp only [Value.slice.injEq] at h1
    rw [h1.1]; rfl

/-- A store of a word. -/
theorem MD.store {w : World} {m g : Nat} {cap : Nat} {us : List Int} (h : MD w m (some ⟨g, 0, none⟩) cap us) (i : Nat) (u : Int) (hi : i < us.length) (hu : 0 ≤ u ∧ u < 4294967296) :
    MD (w.setCell ⟨g, i, none⟩ (.int .u32 u)) m (some ⟨g, 0, none⟩) cap (us.set i u) ∧ Moved w (w.setCell ⟨g, i, none⟩ (.int .u32 u)) m (some ⟨g, 0, none⟩) (some ⟨g, 0, none⟩) := by
  obtain ⟨g', hg', hne, hlt⟩ := h.row (by omega)
  simp only [Option.some.injEq, Addr.mk.injEq, and_true] at hg'
  subst hg'
  have hs := h.own.stored i (.int .u32 u)
  refine ⟨⟨?_, ?_, ?_, by rw [List.length_set]; exact h.len⟩, hs.2.os, hs.2.tape, hs.2.output, hs.2.size, fun k hk hm hx => hs.2.block k hk hx, .inl rfl⟩
  · rw [List.length_set, Below.heap_setCell _ _ _ _ (by exact fun e => hne e.symm)]; exact h.blk
  · rw [List.length_set, List.map_set]; exact hs.1
  · intro x hx
    rcases List.mem_or_eq_of_mem_set hx with hx | hx
    · exact h.bd x hx
    · rw [hx]; exact hu

theorem Moved.owns {w w' : World} {m : Nat} {x y : Option Addr} (h : Moved w w' m x y) {B : Nat} {T : TypeId} {ao : Option Addr} {n cap : Nat} {xs : List Value} (ho : w.ownsRow B T 1 (.slice ao n cap) n xs)
    (hne : ∀ g, blkOf ao = some g → g ≠ m ∧ some g ≠ blkOf x) : w'.ownsRow B T 1 (.slice ao n cap) n xs := by
  refine ⟨ho.1, ?_⟩
  rcases ho.2 with h2 | ⟨g, c, cur, h1, hb, hg, r⟩
  · exact .inl h2
  · refine .inr ⟨g, c, cur, h1, hb, ?_, r⟩
    simp only [Value.slice.injEq] at h1
    have := hne g (by rw [h1.1]; rfl)
    exact (h.block g (blk_lt hg) this.1 this.2).trans hg

/-- What a copy of words gives: a row of the call's own. -/
def CopiedOwn (w : World) (zs : List Int) (e : Ending) (w' : World) : Prop :=
  ∃ a' c', e = .returned (.slice a' zs.length c') ∧ Fresh w.heap.size w' a' ∧ w'.ownsRow w.heap.size 80 1 (.slice a' zs.length c') zs.length (zs.map (Value.int .u32)) ∧ RowInt .u32 w' a' zs ∧ Below w.heap.size w w'
theorem owns_of_row {w : World} {g B : Nat} {T : TypeId} {n : Nat} {f : Nat → Value} {zs : List Int} (h : w.rowIs g T n f) (hn : zs.length = n) (hm : n ≤ maxLen) (hB : B ≤ g) (hf : ∀ i, i < n → f i = .int .u32 (zs.getD i 0)) :
    w.ownsRow B T 1 (.slice (some ⟨g, 0, none⟩) zs.length n) zs.length (zs.map (Value.int .u32)) := by
  rw [hn]
  obtain ⟨c, hc, hs, hv⟩ := h
  refine ⟨by simpa using hn, .inr ⟨g, n, c, rfl, hB, hc, Nat.le_refl _, hm, by omega, ?_⟩⟩
  apply List.ext_getElem?
  intro i
  rw [Nat.mul_one]
  rcases Nat.lt_or_ge i n with hi | hi
  · rw [List.getElem?_take_of_lt hi, Array.getElem?_toList, hv i hi, hf i hi, List.getElem?_map, List.getElem?_eq_getElem (by omega), List.getD_eq_getElem?_getD, List.getElem?_eq_getElem (by omega)]; rfl
  · rw [List.getElem?_take_eq_none hi, List.getElem?_map, List.getElem?_eq_none (by omega)]; rfl

/-- The words with zeros behind them up to n. -/
def ext (us : List Int) (n : Nat) : List Int := us ++ List.replicate (n - us.length) 0
theorem length_ext (us : List Int) (n : Nat) : (ext us n).length = max us.length n := by simp [ext]; omega
theorem ext_same {us : List Int} {n : Nat} (h : n ≤ us.length) : ext us n = us := by simp [ext, Nat.sub_eq_zero_of_le h]
theorem ext_snoc {us : List Int} {n : Nat} (h : us.length < n) : ext (us ++ [0]) n = ext us n := by
  simp only [ext, List.append_assoc, List.length_append, List.length_singleton]
  rw [show n - us.length = (n - (us.length + 1)) + 1 by omega, List.replicate_succ]; rfl

/-- The word of a plain capture at p; of a position capture. -/
def capW (p : Int) : Int := p % 4294967296 * 2 % 4294967296
def posW (p : Int) : Int := capW p + 1
theorem capW_bd (p : Int) : 0 ≤ capW p ∧ capW p < 4294967296 := by unfold capW; omega
theorem posW_bd (p : Int) : 0 ≤ posW p ∧ posW p < 4294967296 := by unfold posW capW; omega
theorem or_one (k : Nat) (hk : k < 2147483648) : bits .or .u32 ((2 * k : Nat) : Int) 1 = ((2 * k : Nat) : Int) + 1 := by
  have h1 : (BitVec.ofInt 32 ((2 * k : Nat) : Int)).toNat = 2 * k := by rw [BitVec.ofInt_natCast, BitVec.toNat_ofNat]; exact Nat.mod_eq_of_lt (by omega)
  have h2 : (BitVec.ofInt 32 (1 : Int)).toNat = 1 := rfl
  have h3 : 2 * k ||| 1 = 2 * k + 1 := by
    have := Nat.two_pow_add_eq_or_of_lt (i := 1) (b := 1) (by omega) k
    simpa using this.symm
  show IntKind.u32.wrap ((BitVec.ofInt 32 ((2 * k : Nat) : Int) ||| BitVec.ofInt 32 (1 : Int)).toNat : Int) = _
  rw [BitVec.toNat_or, h1, h2, h3, IntKind.wrap_u32]
  omega
theorem posW_eq (p : Int) : bits .or .u32 (p % 4294967296 * 2 % 4294967296) 1 = posW p := by
  have h := or_one (p % 2147483648).toNat (by omega)
  have e : ((2 * (p % 2147483648).toNat : Nat) : Int) = p % 4294967296 * 2 % 4294967296 := by omega
  rw [e] at h
  exact h

theorem u32_info : (Tryf.prog.info? 80).map (fun i => (i.zero, i.size, i.bytes)) = some (some (.int .u32 0), 1, 4) := by kernel_rfl

/-- The value that an append leaves: not nil. -/
theorem owns_some {w : World} {T : TypeId} {v : Value} {n : Nat} {xs : List Value} (h : w.ownsRow 0 T 1 v (n + 1) xs) : ∃ g cap, v = .slice (some ⟨g, 0, none⟩) (n + 1) cap := by
  rcases h.2 with ⟨_, h2⟩ | ⟨g, cap, cur, h1, _⟩
  · omega
  · exact ⟨g, cap, h1⟩


/-- Behind the append the MatchData's own block still stands as it was. -/
theorem MD.mid {w w1 : World} {m cap : Nat} {ao : Option Addr} {us : List Int} {o : Obj} (h : MD w m ao cap us) (hg : (w.alloc o).grownBy w1 (blkOf ao)) :
    w1.heap[m]? = some (.cells #[.slice ao us.length cap] 79 (0, 0)) :=
  blk_grown (blk_alloc h.blk o) hg (by
    intro e
    exact (h.row' m e.symm).1 rfl)

/-- One zero appended, and the new slice stored. -/
theorem MD.grow {w w1 : World} {m g' cap cap' : Nat} {ao : Option Addr} {us : List Int} {o : Obj} (h : MD w m ao cap us) (hl : us.length + 1 ≤ 2147483648)
    (hown : w1.ownsRow 0 80 1 (.slice (some ⟨g', 0, none⟩) (us.length + 1) cap') (us.length + 1) (us.map (Value.int .u32) ++ [.int .u32 0])) (hg : (w.alloc o).grownBy w1 (blkOf ao))
    (hr : blkOf ao = some g' ∨ w.heap.size ≤ g') :
    MD (w1.setCell ⟨m, 0, none⟩ (.slice (some ⟨g', 0, none⟩) (us.length + 1) cap')) m (some ⟨g', 0, none⟩) cap' (us ++ [0]) ∧ Moved w (w1.setCell ⟨m, 0, none⟩ (.slice (some ⟨g', 0, none⟩) (us.length + 1) cap')) m ao (some ⟨g', 0, none⟩) := by
  have hmid := h.mid hg
  have hne : g' ≠ m := by
    rcases hown.2 with ⟨h1, _⟩ | ⟨g, c, cur, h1, _, hg', _⟩
    · simp at h1
    · simp only [Value.slice.injEq, Option.some.injEq, Addr.mk.injEq, and_true] at h1
      rintro rfl
      rw [← h1.1, hmid] at hg'
      simp at hg'
  refine ⟨⟨?_, ?_, ?_, by simpa using hl⟩, hg.os, hg.tape, hg.output, ?_, fun k hk hm hx => ?_, ?_⟩
  · rw [List.length_append, List.length_singleton]
    exact blk_set hmid 0 _
  · rw [List.length_append, List.length_singleton, List.map_append]
    exact ownsRow_setCell_other hown (by rw [ownBlock_slice]; simp only [blkOf, Option.map_some, ne_eq, Option.some.injEq]; exact hne) _
  · intro u hu
    rcases List.mem_append.1 hu with hu | hu
    · exact h.bd u hu
    · simp at hu; subst hu; omega
  · have := hg.size
    simp only [World.setCell, Array.size_modify]
    exact Nat.le_trans (by simp) this
  · rw [Below.heap_setCell _ _ _ _ hm]
    exact (hg.block k (by simp; omega) hx).trans (Below.heap_alloc w o k hk)
  · rcases hr with hr | hr
    · exact .inl hr.symm
    · exact .inr fun g hgg => by simp only [blkOf, Option.map_some, Option.some.injEq] at hgg; omega



set_option maxHeartbeats 1000000 in
set_option maxRecDepth 100000 in
theorem addPos_any {w : World} {m cap s : Nat} {ao : Option Addr} {us : List Int} (p : Int) (h : MD w m ao cap us) (hs : s ≤ 1073741824) :
    Calls Tryf.prog 36 #[.pointer (some ⟨m, 0, none⟩), .int .i64 (s : Int), .int .i64 p] w fun e w' => e = .returned (.tuple #[]) ∧ ∃ ao' cap', MD w' m ao' cap' (((ext us (s + 2)).set s (posW p)).set (s + 1) (posW p)) ∧ Moved w w' m ao ao' := by
  obtain ⟨i0, hi, hz0, hz1, hz2⟩ := info_parts u32_info
  have H := Lib.hid h
  clear h
  go_enter Tryf.func36, Tryf.ntmps36
  go_wp2_with fail
  go_loopg [] (s + 2 - us.length) (fun k wr => ∃ ao' cap' vs, k = s + 2 - vs.length ∧ us.length ≤ vs.length ∧ ext vs (s + 2) = ext us (s + 2) ∧ MD wr m ao' cap' vs ∧ Moved w wr m ao ao')
  case atStart => exact ⟨ao, cap, us, rfl, Nat.le_refl _, rfl, H.out, Moved.refl _ _ _⟩
  case round =>
    obtain ⟨ao', cap', vs, rfl, hle, hext, hmd, hmv⟩ := hrel
    have HM := Lib.hid hmd
    have HV := Lib.hid hmv
    have HX := Lib.hid hext
    have hlen := hmd.len
    have g0 : wr.cell? ⟨m, 0, none⟩ = some (.slice ao' vs.length cap') := blk_cell hmd.blk 0 _ rfl
    have HW := Lib.hid (hmd.own.alloc (.cells #[.int .u32 0] 80))
    clear hmd hmv hext
    by_cases hlt : vs.length < s + 2
    · go_wp2_with (at_builtin; refine wpList_push _ rfl (.tmp 18) (.tmp 19) 77 rfl 0 80 i0 (.int .u32 0) 1 4 Tryf.underlying77 hi hz0 hz1 hz2 rfl (by decide) _ _ _ _ rfl HW.out ⟨wr.heap.size, 0, none⟩ 1 1 [.int .u32 0] rfl rfl (cell_one_new _ _ _) (fun u hu => by simp at hu; subst hu; rfl) (by decide) (by unfold maxLen; omega) (by omega) (Nat.zero_le _) ?_; intro g1 c1 w1 hown' hgrow hwhere; have hmid := HM.out.mid hgrow; have k0 := blk_cell hmid 0 _ rfl; have k1 := blk_free hmid 0; have HO := Lib.hid hown'; have HG := Lib.hid hgrow; have HWh := Lib.hid hwhere; clear hown' hgrow hwhere hmid)
      have HR := HM.out.grow (by omega) HO.out HG.out (by rcases HWh.out with h | h; exact .inl h; exact .inr (by simp at h; omega))
      go_roundg (s + 2 - (vs ++ [(0 : Int)]).length)
      case measure => simp; omega
      case rel => exact ⟨_, _, vs ++ [0], rfl, by simp; omega, (ext_snoc hlt).trans HX.out, HR.1, HV.out.trans HR.2⟩
    · obtain ⟨g, rfl, hne, hglt⟩ := HM.out.row (by omega)
      have hc1 := HM.out.cell s (by omega)
      have hc2 := HM.out.cell (s + 1) (by omega)
      have hf1 := HM.out.free s
      have hf2 := HM.out.free (s + 1)
      have hs1 : (s : Int) < vs.length := by omega
      have hs2 : (s : Int) + 1 < vs.length := by omega
      clear HW
      obtain ⟨u1, hu1⟩ : ∃ u, u = vs.getD s 0 := ⟨_, rfl⟩
      obtain ⟨u2, hu2⟩ : ∃ u, u = vs.getD (s + 1) 0 := ⟨_, rfl⟩
      rw [← hu1] at hc1
      rw [← hu2] at hc2
      have hw := posW_eq p
      have HP := Lib.hid hw
      clear hu1 hu2 hw
      go_wp2
      rw [HP.out]
      go_end0
      have hvs : vs = ext us (s + 2) := by rw [← HX.out, ext_same (by omega)]
      have S1 := HM.out.store s (posW p) (by omega) (posW_bd p)
      have S2 := S1.1.store (s + 1) (posW p) (by rw [List.length_set]; omega) (posW_bd p)
      rw [← hvs]
      exact ⟨rfl, _, _, S2.1, HV.out.trans (S1.2.trans S2.2)⟩



set_option maxHeartbeats 1000000 in
set_option maxRecDepth 100000 in
theorem setCap_any {w : World} {m cap s : Nat} {ao : Option Addr} {us : List Int} (p : Int) (h : MD w m ao cap us) (hs : s ≤ 1073741824) :
    Calls Tryf.prog 34 #[.pointer (some ⟨m, 0, none⟩), .int .i64 (s : Int), .int .i64 p] w fun e w' => e = .returned (.int .u32 ((ext us (s + 1)).getD s 0)) ∧ ∃ ao' cap', MD w' m ao' cap' ((ext us (s + 1)).set s (capW p)) ∧ Moved w w' m ao ao' := by
  obtain ⟨i0, hi, hz0, hz1, hz2⟩ := info_parts u32_info
  have H := Lib.hid h
  clear h
  go_enter Tryf.func34, Tryf.ntmps34
  go_wp2_with fail
  go_loopg [] (s + 1 - us.length) (fun k wr => ∃ ao' cap' vs, k = s + 1 - vs.length ∧ us.length ≤ vs.length ∧ ext vs (s + 1) = ext us (s + 1) ∧ MD wr m ao' cap' vs ∧ Moved w wr m ao ao')
  case atStart => exact ⟨ao, cap, us, rfl, Nat.le_refl _, rfl, H.out, Moved.refl _ _ _⟩
  case round =>
    obtain ⟨ao', cap', vs, rfl, hle, hext, hmd, hmv⟩ := hrel
    have HM := Lib.hid hmd
    have HV := Lib.hid hmv
    have HX := Lib.hid hext
    have hlen := hmd.len
    have g0 : wr.cell? ⟨m, 0, none⟩ = some (.slice ao' vs.length cap') := blk_cell hmd.blk 0 _ rfl
    have HW := Lib.hid (hmd.own.alloc (.cells #[.int .u32 0] 80))
    clear hmd hmv hext
    by_cases hlt : vs.length < s + 1
    · go_wp2_with (at_builtin; refine wpList_push _ rfl (.tmp 19) (.tmp 20) 77 rfl 0 80 i0 (.int .u32 0) 1 4 Tryf.underlying77 hi hz0 hz1 hz2 rfl (by decide) _ _ _ _ rfl HW.out ⟨wr.heap.size, 0, none⟩ 1 1 [.int .u32 0] rfl rfl (cell_one_new _ _ _) (fun u hu => by simp at hu; subst hu; rfl) (by decide) (by unfold maxLen; omega) (by omega) (Nat.zero_le _) ?_; intro g1 c1 w1 hown' hgrow hwhere; have hmid := HM.out.mid hgrow; have k0 := blk_cell hmid 0 _ rfl; have k1 := blk_free hmid 0; have HO := Lib.hid hown'; have HG := Lib.hid hgrow; have HWh := Lib.hid hwhere; clear hown' hgrow hwhere hmid)
      have HR := HM.out.grow (by omega) HO.out HG.out (by rcases HWh.out with h | h; exact .inl h; exact .inr (by simp at h; omega))
      go_roundg (s + 1 - (vs ++ [(0 : Int)]).length)
      case measure => simp; omega
      case rel => exact ⟨_, _, vs ++ [0], rfl, by simp; omega, (ext_snoc hlt).trans HX.out, HR.1, HV.out.trans HR.2⟩
    · obtain ⟨g, rfl, hne, hglt⟩ := HM.out.row (by omega)
      have hc1 := HM.out.cell s (by omega)
      have hf1 := HM.out.free s
      have hs1 : (s : Int) < vs.length := by omega
      clear HW
      obtain ⟨u1, hu1⟩ : ∃ u, u = vs.getD s 0 := ⟨_, rfl⟩
      rw [← hu1] at hc1
      have HU := Lib.hid hu1
      have HP : Hid (p % 4294967296 * 2 % 4294967296 = capW p) := rfl
      clear hu1
      go_wp2
      rw [HP.out]
      go_ret
      have hvs : vs = ext us (s + 1) := by rw [← HX.out, ext_same (by omega)]
      have S1 := HM.out.store s (capW p) (by omega) (capW_bd p)
      rw [← hvs]
      exact ⟨ret_int HU.out, _, _, S1.1, HV.out.trans S1.2⟩



theorem capLen_any {w : World} {m cap : Nat} {ao : Option Addr} {us : List Int} (h : MD w m ao cap us) :
    Calls Tryf.prog 8 #[.pointer (some ⟨m, 0, none⟩)] w fun e w' => e = .returned (.int .i64 (us.length : Int)) ∧ w = w' := by
  have g0 : w.cell? ⟨m, 0, none⟩ = some (.slice ao us.length cap) := blk_cell h.blk 0 _ rfl
  clear h
  go_enter Tryf.func8, Tryf.ntmps8
  go_wp2
  go_ret
  exact ⟨rfl, rfl⟩



theorem and_one (u : Int) (h0 : 0 ≤ u) (h1 : u < 4294967296) : bits .and .u32 u 1 = u % 2 := by
  have e1 : (BitVec.ofInt 32 u).toNat = u.toNat := by
    have : u = ((u.toNat : Nat) : Int) := by omega
    rw [this, BitVec.ofInt_natCast, BitVec.toNat_ofNat]
    rw [Int.toNat_natCast]; exact Nat.mod_eq_of_lt (by omega)
  have e2 : (BitVec.ofInt 32 (1 : Int)).toNat = 1 := rfl
  show IntKind.u32.wrap ((BitVec.ofInt 32 u &&& BitVec.ofInt 32 (1 : Int)).toNat : Int) = _
  rw [BitVec.toNat_and, e1, e2, Nat.and_one_is_mod, IntKind.wrap_u32]
  omega

theorem isPos_any {w : World} {m cap : Nat} {ao : Option Addr} {us : List Int} (i : Nat) (h : MD w m ao cap us) (hi : i < us.length) :
    Calls Tryf.prog 10 #[.pointer (some ⟨m, 0, none⟩), .int .i64 (i : Int)] w fun e w' => e = .returned (.bool (us.getD i 0 % 2 == 1)) ∧ w = w' := by
  obtain ⟨g, rfl, hne, hlt⟩ := h.row (by omega)
  have g0 : w.cell? ⟨m, 0, none⟩ = some (.slice (some ⟨g, 0, none⟩) us.length cap) := blk_cell h.blk 0 _ rfl
  have hc := h.cell i hi
  have hb := h.word i
  have hlen := h.len
  obtain ⟨u, hu⟩ : ∃ u, u = us.getD i 0 := ⟨_, rfl⟩
  rw [← hu] at hc hb
  rw [← hu]
  have hb1 := hb.1
  have hb2 := hb.2
  have hbits := and_one u hb1 hb2
  clear h hb hu
  go_enter Tryf.func10, Tryf.ntmps10
  go_wp2
  go_ret
  exact ⟨rfl, rfl⟩

theorem cap_any {w : World} {m cap : Nat} {ao : Option Addr} {us : List Int} (i : Nat) (h : MD w m ao cap us) (hi : i < us.length) :
    Calls Tryf.prog 9 #[.pointer (some ⟨m, 0, none⟩), .int .i64 (i : Int)] w fun e w' => e = .returned (.int .i64 (us.getD i 0 / 2)) ∧ w = w' := by
  obtain ⟨g, rfl, hne, hlt⟩ := h.row (by omega)
  have g0 : w.cell? ⟨m, 0, none⟩ = some (.slice (some ⟨g, 0, none⟩) us.length cap) := blk_cell h.blk 0 _ rfl
  have hc := h.cell i hi
  have hb := h.word i
  have hlen := h.len
  obtain ⟨u, hu⟩ : ∃ u, u = us.getD i 0 := ⟨_, rfl⟩
  rw [← hu] at hc hb
  rw [← hu]
  have hb1 := hb.1
  have hb2 := hb.2
  clear h hb hu
  go_enter Tryf.func9, Tryf.ntmps9
  go_wp2
  go_ret
  exact ⟨rfl, rfl⟩

theorem isPos_is {w : World} {m cap : Nat} {ao : Option Addr} {us : List Int} (i : Nat) (b : Bool) (h : MD w m ao cap us) (hi : i < us.length) (hb : Hid ((us.getD i 0 % 2 == 1) = b)) :
    Calls Tryf.prog 10 #[.pointer (some ⟨m, 0, none⟩), .int .i64 (i : Int)] w fun e w' => e = .returned (.bool b) ∧ w = w' := hb.out ▸ isPos_any i h hi
theorem cap_is {w : World} {m cap : Nat} {ao : Option Addr} {us : List Int} (i : Nat) (v : Int) (h : MD w m ao cap us) (hi : i < us.length) (hv : Hid (us.getD i 0 / 2 = v)) :
    Calls Tryf.prog 9 #[.pointer (some ⟨m, 0, none⟩), .int .i64 (i : Int)] w fun e w' => e = .returned (.int .i64 v) ∧ w = w' := hv.out ▸ cap_any i h hi
theorem posW_flag (p : Int) : (posW p % 2 == 1) = true := by rw [beq_iff_eq]; unfold posW capW; omega
theorem posW_val (p : Int) : posW p / 2 = p % 2147483648 := by unfold posW capW; omega
theorem capW_flag (p : Int) : (capW p % 2 == 1) = false := by rw [beq_eq_false_iff_ne]; unfold capW; omega
theorem capW_val (p : Int) : capW p / 2 = p % 2147483648 := by unfold capW; omega
theorem getD_set_same {l : List Int} {i : Nat} {v : Int} (h : i < l.length) : (l.set i v).getD i 0 = v := by
  rw [List.getD_eq_getElem?_getD, List.getElem?_set_self h]; rfl
theorem getD_set_ne {l : List Int} {i j : Nat} {v : Int} (h : i ≠ j) : (l.set i v).getD j 0 = l.getD j 0 := by
  rw [List.getD_eq_getElem?_getD, List.getD_eq_getElem?_getD, List.getElem?_set_ne h]
theorem getD_ext (l : List Int) (n j : Nat) : (ext l n).getD j 0 = l.getD j 0 := by
  unfold ext
  rcases Nat.lt_or_ge j l.length with h | h
  · rw [List.getD_eq_getElem?_getD, List.getElem?_append_left h, ← List.getD_eq_getElem?_getD]
  · rw [List.getD_eq_getElem?_getD, List.getElem?_append_right h, List.getD_eq_getElem?_getD, List.getElem?_eq_none h, List.getElem?_replicate]
    split <;> rfl



theorem newMatch_any (w : World) : Calls Tryf.prog 33 #[] w fun e w' => e = .returned (.pointer (some ⟨w.heap.size + 1, 0, none⟩)) ∧ MD w' (w.heap.size + 1) (some ⟨w.heap.size, 0, none⟩) 0 [] ∧ Below w.heap.size w w' ∧ w'.heap.size = w.heap.size + 2 := by
  go_enter Tryf.func33, Tryf.ntmps33
  go_wp2
  go_ret
  have hsz : (w.alloc (Obj.cells #[] 80)).heap.size = w.heap.size + 1 := by simp
  refine ⟨rfl, ⟨?_, ?_, fun u hu => absurd hu (by simp), by simp⟩, ((Below.refl _ _).alloc (Nat.le_refl _) _).alloc (by simp) _, by simp⟩
  · have := blk_new (w.alloc (Obj.cells #[] 80)) (Obj.cells #[Value.slice (some { block := w.heap.size, off := 0 }) 0 0] 79)
    rw [hsz] at this
    exact this
  · exact (World.ownsRow_lit (e := 80) (size := 1) w #[] 0 (Nat.zero_le _) (Nat.zero_le _) rfl).alloc _



theorem restCap_any {w : World} {m cap : Nat} {ao : Option Addr} {us : List Int} (i : Nat) (u : Int) (h : MD w m ao cap us) (hi : i < us.length) (hu : 0 ≤ u ∧ u < 4294967296) :
    Calls Tryf.prog 35 #[.pointer (some ⟨m, 0, none⟩), .int .i64 (i : Int), .int .u32 u] w fun e w' => e = .returned (.tuple #[]) ∧ MD w' m ao cap (us.set i u) ∧ Moved w w' m ao ao := by
  obtain ⟨g, rfl, hne, hlt⟩ := h.row (by omega)
  have g0 : w.cell? ⟨m, 0, none⟩ = some (.slice (some ⟨g, 0, none⟩) us.length cap) := blk_cell h.blk 0 _ rfl
  have hc := h.cell i hi
  have hf := h.free i
  have hlen := h.len
  obtain ⟨u1, hu1⟩ : ∃ u, u = us.getD i 0 := ⟨_, rfl⟩
  rw [← hu1] at hc
  have HS := Lib.hid (h.store i u hi hu)
  clear h hu1
  go_enter Tryf.func35, Tryf.ntmps35
  go_wp2
  go_end0
  exact ⟨rfl, HS.out.1, HS.out.2⟩



/-- The byte of the source at a place; -1 beyond it. -/
def byteAt (src : List Int) (i : Nat) : Int := if i < src.length then src.getD i 0 else -1

/-- The loop of a balanced match: from the place sp with the count on; some: the place behind the close. -/
def braceRun (src : List Int) (b e : Int) (sp : Nat) (count : Int) : Option Nat :=
  if src.length ≤ sp then none
  else
    let z := byteAt src sp
    let count := if z = e then count - 1 else count
    if count = 0 then some (sp + 1)
    else braceRun src b e (sp + 1) (if z = b then count + 1 else count)
termination_by src.length - sp

theorem brace_end {src : List Int} {b e : Int} {sp : Nat} {count : Int} (h : src.length ≤ sp) : braceRun src b e sp count = none := by unfold braceRun; rw [if_pos h]
theorem brace_done {src : List Int} {b e : Int} {sp : Nat} {z : Int} {count : Int} (h : sp < src.length) (hz : byteAt src sp = z) (hc : (if z = e then count - 1 else count) = 0) : braceRun src b e sp count = some (sp + 1) := by
  unfold braceRun
  rw [if_neg (by omega)]
  simp only [hz]
  rw [if_pos hc]
theorem brace_on {src : List Int} {b e : Int} {sp : Nat} {z : Int} {count c1 c2 : Int} (h : sp < src.length) (hz : byteAt src sp = z) (hc1 : (if z = e then count - 1 else count) = c1) (hc : c1 ≠ 0) (hc2 : (if z = b then c1 + 1 else c1) = c2) : braceRun src b e sp count = braceRun src b e (sp + 1) c2 := by
  conv => lhs; unfold braceRun
  rw [if_neg (by omega)]
  simp only [hz]
  rw [hc1, if_neg hc, hc2]
theorem brace_le {src : List Int} {b e : Int} : ∀ (n sp : Nat) (count : Int) (s' : Nat), src.length - sp = n → braceRun src b e sp count = some s' → s' ≤ src.length
  | 0, sp, count, s', hn, h => by rw [brace_end (by omega)] at h; cases h
  | n + 1, sp, count, s', hn, h => by
    by_cases hc : (if byteAt src sp = e then count - 1 else count) = 0
    · rw [brace_done (by omega) rfl hc] at h; injection h with h; omega
    · rw [brace_on (by omega) rfl rfl hc rfl] at h; exact brace_le n _ _ _ (by omega) h

/-- The place that a captured word holds. -/
def capV (us : List Int) (i : Nat) : Nat := (us.getD i 0 / 2).toNat

/-- The machine: depth of the recursion that is needed, steps of the frame, the state, how it ends (matched, place, captures). -/
inductive VRun (src : List Int) (I : List Ins) : Nat → Nat → Nat → Nat → List Int → Bool × Nat × List Int → Prop
  | chrNo {d n pc sp us c} : I[pc]? = some (.chr c) → src.length ≤ sp ∨ c.has (byteAt src sp) = false → VRun src I d n pc sp us (false, sp, us)
  | chrYes {d n pc sp us c r} : I[pc]? = some (.chr c) → sp < src.length → c.has (byteAt src sp) = true → VRun src I d n (pc + 1) (sp + 1) us r → VRun src I d (n + 1) pc sp us r
  | mat {d n pc sp us} : I[pc]? = some .mat → VRun src I d n pc sp us (true, sp, us)
  | tmat {d n pc sp us} : I[pc]? = some .tmat → VRun src I d n pc sp us (decide (src.length ≤ sp), sp, us)
  | jmp {d n pc sp us a r} : I[pc]? = some (.jmp a) → VRun src I d n a sp us r → VRun src I d (n + 1) pc sp us r
  | splitA {d n m pc sp us a b sp' us'} : I[pc]? = some (.split a b) → VRun src I d m a sp us (true, sp', us') → VRun src I (d + 1) n pc sp us (true, sp', us')
  | splitB {d n m pc sp us a b sp' us' r} : I[pc]? = some (.split a b) → VRun src I d m a sp us (false, sp', us') → VRun src I (d + 1) n b sp us' r → VRun src I (d + 1) (n + 1) pc sp us r
  | saveYes {d n m pc sp us k sp' us'} : I[pc]? = some (.save k) → VRun src I d m (pc + 1) sp ((ext us (k + 1)).set k (capW sp)) (true, sp', us') → VRun src I (d + 1) n pc sp us (true, sp', us')
  | saveNo {d n m pc sp us k sp' us'} : I[pc]? = some (.save k) → VRun src I d m (pc + 1) sp ((ext us (k + 1)).set k (capW sp)) (false, sp', us') → k < us'.length → VRun src I (d + 1) n pc sp us (false, sp, us'.set k ((ext us (k + 1)).getD k 0))
  | psave {d n pc sp us k r} : I[pc]? = some (.psave k) → VRun src I d n (pc + 1) sp (((ext us (k + 2)).set k (posW (sp + 1))).set (k + 1) (posW (sp + 1))) r → VRun src I d (n + 1) pc sp us r
  | braceNo {d n pc sp us b e} : I[pc]? = some (.brace b e) → src.length ≤ sp ∨ byteAt src sp ≠ b → VRun src I d n pc sp us (false, sp, us)
  | braceEnd {d n pc sp us b e} : I[pc]? = some (.brace b e) → sp < src.length → byteAt src sp = b → braceRun src b e (sp + 1) 1 = none → VRun src I d n pc sp us (false, src.length, us)
  | braceYes {d n pc sp us b e sp' r} : I[pc]? = some (.brace b e) → sp < src.length → byteAt src sp = b → braceRun src b e (sp + 1) 1 = some sp' → VRun src I d n (pc + 1) sp' us r → VRun src I d (n + 1) pc sp us r
  | numNo {d n pc sp us} {k i : Nat} : I[pc]? = some (.num (k : Int)) → k * 2 + 1 < us.length → capV us (k * 2) ≤ capV us (k * 2 + 1) → capV us (k * 2 + 1) ≤ src.length →
      i < capV us (k * 2 + 1) - capV us (k * 2) → byteAt src (sp + i) ≠ byteAt src (capV us (k * 2) + i) → VRun src I d n pc sp us (false, sp, us)
  | numYes {d n pc sp us r} {k : Nat} : I[pc]? = some (.num (k : Int)) → k * 2 + 1 < us.length → capV us (k * 2) ≤ capV us (k * 2 + 1) → capV us (k * 2 + 1) ≤ src.length →
      (∀ i : Nat, i < capV us (k * 2 + 1) - capV us (k * 2) → byteAt src (sp + i) = byteAt src (capV us (k * 2) + i)) →
      VRun src I d n (pc + 1) (sp + (capV us (k * 2 + 1) - capV us (k * 2))) us r → VRun src I d (n + 1) pc sp us r



/-- The bytes from the cursor c on begin with l. -/
def At (zs : List Int) (c : Nat) (l : List Int) : Prop := ∃ post, zs.drop c = l ++ post
theorem At.app {zs : List Int} {c : Nat} {a b : List Int} (h : At zs c (a ++ b)) : At zs c a ∧ At zs (c + a.length) b := by
  obtain ⟨post, h⟩ := h
  refine ⟨⟨b ++ post, by rw [h, List.append_assoc]⟩, post, ?_⟩
  rw [← List.drop_drop, h, List.append_assoc, List.drop_left]
theorem At.lt {zs : List Int} {c : Nat} {z : Int} {l : List Int} (h : At zs c (z :: l)) : c < zs.length := by
  obtain ⟨post, h⟩ := h
  rcases Nat.lt_or_ge c zs.length with h1 | h1
  · exact h1
  · rw [List.drop_eq_nil_of_le h1] at h; simp at h
theorem At.chr {zs : List Int} {c : Nat} {z : Int} {l : List Int} (h : At zs c (z :: l)) : chr zs c = z := by
  have hl := h.lt
  obtain ⟨post, h⟩ := h
  unfold Go.Proofs.YtcfhhcjcnafcjaaFmt.chr
  rw [if_pos hl]
  have h2 : (zs.drop c)[0]? = some z := by rw [h]; rfl
  rw [List.getElem?_drop] at h2
  simp only [Nat.add_zero] at h2
  rw [List.getD_eq_getElem?_getD, h2]; rfl
theorem At.tail {zs : List Int} {c : Nat} {z : Int} {l : List Int} (h : At zs c (z :: l)) : At zs (c + 1) l := (At.app (a := [z]) h).2
theorem At.le {zs : List Int} {c : Nat} {l : List Int} (h : At zs c l) (hc : c ≤ zs.length) : c + l.length ≤ zs.length := by
  obtain ⟨post, h⟩ := h
  have := congrArg List.length h
  simp at this
  omega
theorem at_zero (l post : List Int) : At (l ++ post) 0 l := ⟨post, rfl⟩

def elOf : SI → El
  | .chr z => .chr z
  | .rng a b => .rng (.chr a) (.chr b)
  | .esc z => .sgl z
def clOf : CK → Cl
  | .lit z => .el (.chr z)
  | .dot => .dot
  | .esc z => .el (.sgl z)
  | .set neg l => .set neg (l.map elOf)
/-- A row of tokens as items. -/
inductive PtsOf : List Tk → List Pt → Prop
  | nil : PtsOf [] []
  | cls0 {c ts ps} : PtsOf ts ps → PtsOf (.cls c 0 :: ts) (.one (clOf c) :: ps)
  | clsq {c q ts ps} : q ≠ 0 → PtsOf ts ps → PtsOf (.cls c q :: ts) (.rep q (clOf c) :: ps)
  | pos {k ts ps} : PtsOf ts ps → PtsOf (.pos k :: ts) (.pos :: ps)
  | cap {k inner l ts ps} : PtsOf inner l → PtsOf ts ps → PtsOf (.opn k :: (inner ++ .clo k :: ts)) (.cap l :: ps)
  | ref {n ts ps} : PtsOf ts ps → PtsOf (.ref n :: ts) (.num (n : Int) :: ps)
  | brc {x y ts ps} : PtsOf ts ps → PtsOf (.brc x y :: ts) (.brace x y :: ps)

theorem rangeUp_snoc (acc : List El) (a e : El) : rangeUp (acc ++ [a]) e = acc ++ [.rng a e] := by simp [rangeUp]
theorem setLoop_step {zs : List Int} {c : Nat} {z : Int} {acc : List El} {isr : Bool} (hz : chr zs c = z) (hl : c < zs.length) (h1 : z ≠ 93) (h2 : z ≠ 45) :
    setLoop zs c acc isr = setLoop zs (elem zs c).2 (if isr then rangeUp acc (elem zs c).1 else acc ++ [(elem zs c).1]) false := by
  conv => lhs; unfold setLoop
  rw [if_neg (by omega), if_neg (by rw [hz]; exact fun h => h1 h.1), if_neg (by rw [hz]; exact fun h => h2 h.1)]
/-- An item of a set. -/
theorem si_run {zs : List Int} {c : Nat} {i : SI} {acc : List El} (hi : i.ok) (h : At zs c i.txt) : setLoop zs c acc false = setLoop zs (c + i.txt.length) (acc ++ [elOf i]) false := by
  cases i with
  | chr z =>
    have h1 := h.chr
    have h2 := h.lt
    simp only [SI.ok, sets10, List.mem_cons, List.not_mem_nil, or_false] at hi
    rw [setLoop_step h1 h2 (by omega) (by omega)]
    simp [elem, h1, SI.txt, elOf, show z ≠ 37 by omega]
  | esc z =>
    have h1 := h.chr
    have h2 := h.lt
    have h3 := h.tail.chr
    rw [setLoop_step h1 h2 (by omega) (by omega)]
    simp [elem, h1, h3, SI.txt, elOf]
  | rng a b =>
    have h1 := h.chr
    have h2 := h.lt
    have h3 := h.tail.chr
    have h4 := h.tail.lt
    have h5 := h.tail.tail.chr
    have h6 := h.tail.tail.lt
    have hab : a ≠ 37 ∧ a ≠ 93 ∧ a ≠ 45 ∧ b ≠ 37 ∧ b ≠ 93 ∧ b ≠ 45 := by
      simp only [SI.ok, rngs6, List.mem_cons, Prod.mk.injEq, List.not_mem_nil, or_false] at hi
      omega
    rw [setLoop_step h1 h2 (by omega) (by omega)]
    have e1 : elem zs c = (.chr a, c + 1) := by unfold elem; rw [h1, if_neg (by omega)]
    simp only [e1, Bool.false_eq_true, if_false]
    conv => lhs; unfold setLoop
    rw [if_neg (by omega), if_neg (by rw [h3]; omega), if_pos ⟨h3, by simp⟩]
    rw [setLoop_step h5 h6 (by omega) (by omega)]
    have e2 : elem zs (c + 1 + 1) = (.chr b, c + 1 + 1 + 1) := by unfold elem; rw [h5, if_neg (by omega)]
    simp only [e2, if_true, rangeUp_snoc, SI.txt, elOf, List.length_cons, List.length_nil]
theorem sis_run {zs : List Int} : ∀ (l : List SI) {c : Nat} {acc : List El}, (∀ i, i ∈ l → i.ok) → acc ++ l.map elOf ≠ [] → At zs c (l.flatMap SI.txt ++ [93]) → setLoop zs c acc false = some (acc ++ l.map elOf, false, c + (l.flatMap SI.txt).length + 1)
  | [], c, acc, hi, hne, h => by
    have h1 := At.chr (l := []) h
    have h2 := At.lt (l := []) h
    unfold setLoop
    rw [if_neg (by omega), if_pos ⟨h1, by simpa using hne⟩]
    simp
  | i :: l, c, acc, hi, hne, h => by
    rw [List.flatMap_cons, List.append_assoc] at h
    rw [si_run (hi i (by simp)) h.app.1, sis_run l (fun j hj => hi j (by simp [hj])) (by simp) h.app.2]
    simp [List.flatMap_cons]
    omega
theorem not94_sis {l : List SI} (hl : l ≠ []) (hi : ∀ i, i ∈ l → i.ok) : ∃ z r, l.flatMap SI.txt ++ [93] = z :: r ∧ z ≠ 94 := by
  match l, hl with
  | i :: l, _ =>
    have h := hi i (by simp)
    cases i with
    | chr z => exact ⟨z, _, rfl, by simp only [SI.ok, sets10, List.mem_cons, List.not_mem_nil, or_false] at h; omega⟩
    | esc z => exact ⟨37, _, rfl, by omega⟩
    | rng a b => exact ⟨a, _, rfl, by simp only [SI.ok, rngs6, List.mem_cons, Prod.mk.injEq, List.not_mem_nil, or_false] at h; omega⟩
theorem set_txt (neg : Bool) (l : List SI) : (CK.set neg l).txt = 91 :: ((if neg then [94] else []) ++ (l.flatMap SI.txt ++ [93])) := by simp [CK.txt]
/-- A class. -/
theorem ck_run {zs : List Int} {c : Nat} {k : CK} (hk : k.ok) (h : At zs c k.txt) : parseCls zs c = some (clOf k, c + k.txt.length) := by
  cases k with
  | lit z =>
    have h1 := h.chr
    have h2 := h.lt
    simp only [CK.ok, lits13, List.mem_cons, List.not_mem_nil, or_false] at hk
    unfold parseCls
    rw [if_neg (by omega), if_neg (by omega), if_neg (by omega), if_neg (by omega), h1]
    rfl
  | dot =>
    have h1 := h.chr
    have h2 := h.lt
    unfold parseCls
    rw [if_neg (by omega), if_neg (by omega), if_pos h1]
    rfl
  | esc z =>
    have h1 := h.chr
    have h2 := h.lt
    unfold parseCls
    rw [if_neg (by omega), if_pos h1, h.tail.chr]
    rfl
  | set neg l =>
    obtain ⟨hl, h4, hi⟩ := hk
    rw [set_txt] at h
    have h1 := h.chr
    have h2 := h.lt
    have ht := h.tail
    unfold parseCls
    rw [if_neg (by omega), if_neg (by omega), if_neg (by omega), if_pos h1]
    unfold parseSet
    cases neg with
    | true =>
      have ht' : At zs (c + 1) (94 :: (l.flatMap SI.txt ++ [93])) := ht
      rw [if_pos ht'.chr, sis_run l hi (by simpa using hl) ht'.tail]
      simp [setFin, clOf, CK.txt]
      omega
    | false =>
      have ht' : At zs (c + 1) (l.flatMap SI.txt ++ [93]) := ht
      obtain ⟨z, r, e, hz⟩ := not94_sis hl hi
      have hz' : chr zs (c + 1) = z := At.chr (l := r) (by rw [← e]; exact ht')
      rw [if_neg (by omega), sis_run l hi (by simpa using hl) ht']
      simp [setFin, clOf, CK.txt]
      omega
/-- A class as an item. -/
theorem one_run {zs : List Int} {c : Nat} {k : CK} {top q : Bool} {acc : List Pt} {r : PR} (hk : k.ok) (h : At zs c k.txt) (hr : PRun zs top (c + k.txt.length) (acc ++ [.one (clOf k)]) q r) : PRun zs top c acc q r := by
  have hp := ck_run hk h
  cases k with
  | lit z =>
    have h1 := h.chr
    simp only [CK.ok, lits13, List.mem_cons, List.not_mem_nil, or_false] at hk
    refine .lit h.lt (fun y hy => ?_) (by rw [h1]; exact hr)
    simp only [List.mem_cons, List.not_mem_nil, or_false] at hy
    omega
  | dot => exact .cls (.inl h.chr) hp hr
  | esc z =>
    have h2 := h.tail.chr
    simp only [CK.ok, picks, List.mem_cons, List.not_mem_nil, or_false] at hk
    refine .esc h.chr (by omega) (by omega) (by rw [h2]; exact hr)
  | set neg l =>
    rw [set_txt] at h
    exact .cls (.inr (.inl h.chr)) hp hr
/-- The first byte of a row of tokens. -/
theorem ts_first {k k' : Nat} {ts : List Tk} (h : TS k k' ts) (hn : ts ≠ []) : ∃ z r, txts ts = z :: r ∧ z ≠ 94 ∧ z ≠ 41 := by
  cases h with
  | nil => exact absurd rfl hn
  | @cls _ _ c q ts hc hq _ =>
    cases c with
    | lit z => exact ⟨z, qtxt q ++ txts ts, rfl, by simp only [CK.ok, lits13, List.mem_cons, List.not_mem_nil, or_false] at hc; omega⟩
    | dot => exact ⟨46, qtxt q ++ txts ts, rfl, by omega⟩
    | esc z => exact ⟨37, z :: (qtxt q ++ txts ts), rfl, by omega⟩
    | set neg l => exact ⟨91, _, rfl, by omega⟩
  | pos _ => exact ⟨40, _, rfl, by omega⟩
  | cap _ _ _ => exact ⟨40, _, rfl, by omega⟩
  | ref _ _ _ => exact ⟨37, _, rfl, by omega⟩
  | brc _ _ => exact ⟨37, _, rfl, by omega⟩
theorem ts_pts {k k' : Nat} {ts : List Tk} (h : TS k k' ts) : ∃ ps, PtsOf ts ps := by
  induction h with
  | nil => exact ⟨_, .nil⟩
  | @cls _ _ c q _ _ _ _ ih =>
    obtain ⟨ps, ih⟩ := ih
    by_cases hq : q = 0
    · subst hq; exact ⟨_, .cls0 ih⟩
    · exact ⟨_, .clsq hq ih⟩
  | pos _ ih => obtain ⟨ps, ih⟩ := ih; exact ⟨_, .pos ih⟩
  | cap _ _ _ ih1 ih2 => obtain ⟨l, ih1⟩ := ih1; obtain ⟨ps, ih2⟩ := ih2; exact ⟨_, .cap ih1 ih2⟩
  | ref _ _ _ ih => obtain ⟨ps, ih⟩ := ih; exact ⟨_, .ref ih⟩
  | brc _ _ ih => obtain ⟨ps, ih⟩ := ih; exact ⟨_, .brc ih⟩
/-- The parser over a row of tokens. -/
theorem ts_run {zs : List Int} {k k' : Nat} {ts : List Tk} (h : TS k k' ts) : ∃ ps, PtsOf ts ps ∧ ∀ (c : Nat) (top q : Bool) (acc : List Pt) (r : PR), At zs c (txts ts) → PRun zs top (c + (txts ts).length) (acc ++ ps) q r → PRun zs top c acc q r := by
  induction h with
  | nil => exact ⟨[], .nil, fun c top q acc r _ hr => by simpa [txts] using hr⟩
  | @cls _ _ c q ts hc hq _ ih =>
    obtain ⟨ps, hp, ih⟩ := ih
    by_cases h0 : q = 0
    · subst h0
      refine ⟨_, .cls0 hp, fun i top fl acc r ha hr => ?_⟩
      have e : txts (Tk.cls c 0 :: ts) = c.txt ++ txts ts := by simp [txts, Tk.txt, qtxt]
      rw [e] at ha hr
      refine one_run hc ha.app.1 (ih _ _ _ _ _ ha.app.2 ?_)
      rw [List.length_append, ← Nat.add_assoc] at hr
      simpa using hr
    · refine ⟨_, .clsq h0 hp, fun i top fl acc r ha hr => ?_⟩
      have e : txts (Tk.cls c q :: ts) = c.txt ++ (q :: txts ts) := by simp [txts, Tk.txt, qtxt, h0]
      rw [e] at ha hr
      have hqc := ha.app.2.chr
      have hq4 : q = 42 ∨ q = 43 ∨ q = 45 ∨ q = 63 := by
        simp only [quants, List.mem_cons, List.not_mem_nil, or_false] at hq; omega
      refine one_run hc ha.app.1 (.quant (by rw [hqc]; exact hq4) (ih _ _ _ _ _ ha.app.2.tail ?_))
      rw [hqc]
      rw [List.length_append, List.length_cons, ← Nat.add_assoc] at hr
      simpa [Nat.add_assoc, Nat.add_comm, Nat.add_left_comm] using hr
  | @pos kp _ ts _ ih =>
    obtain ⟨ps, hp, ih⟩ := ih
    refine ⟨_, .pos hp, fun i top fl acc r ha hr => ?_⟩
    have ha' : At zs i (40 :: 41 :: txts ts) := ha
    refine .posc ha'.chr ha'.tail.chr (ih _ _ _ _ _ ha'.tail.tail ?_)
    have e : (txts (Tk.pos kp :: ts)).length = 2 + (txts ts).length := by simp [txts, Tk.txt]; omega
    rw [e, ← Nat.add_assoc] at hr
    simpa using hr
  | @cap k0 k1 k2 inner ts hi hne _ ih1 ih2 =>
    obtain ⟨l, hl, ih1⟩ := ih1
    obtain ⟨ps, hp, ih2⟩ := ih2
    refine ⟨_, .cap hl hp, fun i top fl acc r ha hr => ?_⟩
    have e : txts (Tk.opn k0 :: (inner ++ Tk.clo k0 :: ts)) = 40 :: (txts inner ++ (41 :: txts ts)) := by simp [txts, Tk.txt]
    rw [e] at ha hr
    have h41 := ha.tail.app.2.chr
    obtain ⟨z, rr, ez, hz⟩ := ts_first hi hne
    have hz1 : chr zs (i + 1) = z := At.chr (l := rr) (by rw [← ez]; exact ha.tail.app.1)
    refine .capt ha.chr (by omega) (ih1 _ _ _ _ _ ha.tail.app.1 (.close h41)) h41 (ih2 _ _ _ _ _ ha.tail.app.2.tail ?_)
    simp only [List.length_cons, List.length_append] at hr
    simpa [Nat.add_assoc, Nat.add_comm, Nat.add_left_comm] using hr
  | @ref _ _ n ts h1 h9 _ ih =>
    obtain ⟨ps, hp, ih⟩ := ih
    refine ⟨_, .ref hp, fun i top fl acc r ha hr => ?_⟩
    have ha' : At zs i (37 :: (48 + (n : Int)) :: txts ts) := ha
    have h2 := ha'.tail.chr
    refine .num ha'.chr (by omega) (by omega) (ih _ _ _ _ _ ha'.tail.tail ?_)
    have e : (txts (Tk.ref n :: ts)).length = 2 + (txts ts).length := by simp [txts, Tk.txt]; omega
    rw [e, ← Nat.add_assoc] at hr
    rw [h2, show 48 + (n : Int) - 48 = n by omega]
    simpa using hr
  | @brc _ _ x y ts hx _ ih =>
    obtain ⟨ps, hp, ih⟩ := ih
    refine ⟨_, .brc hp, fun i top fl acc r ha hr => ?_⟩
    have ha' : At zs i (37 :: 98 :: x :: y :: txts ts) := ha
    have hl := ha'.tail.tail.tail.lt
    have h2 := ha'.tail.tail.chr
    have h3 := ha'.tail.tail.tail.chr
    refine .brace ha'.chr ha'.tail.chr ?_
    rw [show min (i + 4) (zs.length + 1) = i + 4 by omega, show i + 2 = i + 1 + 1 from rfl, show i + 3 = i + 1 + 1 + 1 from rfl, h2, h3]
    refine ih _ _ _ _ _ ha'.tail.tail.tail.tail ?_
    have e : (txts (Tk.brc x y :: ts)).length = 4 + (txts ts).length := by simp [txts, Tk.txt]; omega
    rw [e, ← Nat.add_assoc] at hr
    simpa using hr


def defect : Nat → List Int
  | 0 => [40]
  | 1 => [41]
  | 2 => [37, 48]
  | _ => [91]
def defPos (n : Nat) : Nat → Int
  | 0 => -1
  | 1 => if n < 2 then 0 else (n : Int) - 2
  | 2 => (n : Int) - 2
  | _ => (n : Int) - 1
def defMsg : Nat → Nat
  | 0 => 2
  | 1 => 0
  | 2 => 1
  | _ => 3
theorem chr_out {zs : List Int} {c : Nat} (h : zs.length ≤ c) : chr zs c = -1 := by unfold chr; rw [if_neg (by omega)]
/-- The defect at the cursor c, the last thing in the text. -/
theorem bad_run {zs : List Int} {c d : Nat} {acc : List Pt} {q : Bool} (hd : d ≤ 3) (h : At zs c (defect d)) (hl : c + (defect d).length = zs.length) : PRun zs true c acc q (.err (defPos zs.length d) (defMsg d)) := by
  rcases (show d = 0 ∨ d = 1 ∨ d = 2 ∨ d = 3 by omega) with rfl | rfl | rfl | rfl
  · simp only [defect, List.length_cons, List.length_nil] at hl
    have h1 : chr zs c = 40 := At.chr (l := []) h
    have e : posOf zs.length (zs.length + 1) = -1 := by unfold posOf; rw [if_neg (by omega), if_neg (by omega)]
    have := PRun.capOpen (top := true) (acc := acc) (q := q) h1 (by rw [chr_out (by omega)]; omega) (.fin (by omega)) (by rw [chr_out (by omega)]; omega)
    rw [e] at this
    exact this
  · simp only [defect, List.length_cons, List.length_nil] at hl
    have h1 : chr zs c = 41 := At.chr (l := []) h
    have e : posOf zs.length c = defPos zs.length 1 := by
      unfold posOf defPos
      simp only
      split <;> split <;> omega
    rw [← e]
    exact .closeTop h1
  · simp only [defect, List.length_cons, List.length_nil] at hl
    have h' : At zs c (37 :: 48 :: []) := h
    have e : (c : Int) = defPos zs.length 2 := by simp only [defPos]; omega
    rw [← e]
    exact .idx h'.chr h'.tail.chr
  · simp only [defect, List.length_cons, List.length_nil] at hl
    have h1 : chr zs c = 91 := At.chr (l := []) h
    have e : (c : Int) = defPos zs.length 3 := by simp only [defPos]; omega
    rw [← e]
    exact .clsErr h1 (by omega)
theorem bad_ptop {ts : List Tk} {k d : Nat} (an : Bool) (hts : TS 1 k ts) (hd : d ≤ 3) :
    PTop ((if an then [94] else []) ++ txts ts ++ defect d) true 0 an (.err (defPos ((if an then [94] else []) ++ txts ts ++ defect d).length d) (defMsg d)) := by
  obtain ⟨ps, -, hrun⟩ := ts_run (zs := (if an then [94] else []) ++ txts ts ++ defect d) hts
  generalize hz : (if an then [94] else []) ++ txts ts ++ defect d = zs at *
  cases an with
  | true =>
    have h : At zs 0 (94 :: (txts ts ++ defect d)) := ⟨[], by rw [← hz]; simp⟩
    refine .inl ⟨rfl, h.chr, rfl, hrun _ _ _ _ _ h.tail.app.1 (bad_run hd h.tail.app.2 ?_)⟩
    rw [← hz]; simp; omega
  | false =>
    have h : At zs 0 (txts ts ++ defect d) := ⟨[], by rw [← hz]; simp⟩
    refine .inr ⟨fun _ => ?_, rfl, hrun _ _ _ _ _ h.app.1 (bad_run hd h.app.2 ?_)⟩
    · have : chr zs 0 ≠ 94 := by
        by_cases hn : ts = []
        · subst hn
          have h' : At zs 0 (defect d) := h
          rcases (show d = 0 ∨ d = 1 ∨ d = 2 ∨ d = 3 by omega) with rfl | rfl | rfl | rfl
          · rw [At.chr (l := []) h']; omega
          · rw [At.chr (l := []) h']; omega
          · rw [At.chr (l := [48]) h']; omega
          · rw [At.chr (l := []) h']; omega
        · obtain ⟨z, rr, ez, hz1, hz2⟩ := ts_first hts hn
          have h' := h.app.1
          rw [ez] at h'
          rw [h'.chr]; exact hz1
      simpa using this
    · rw [← hz]; simp


/-- The captures' starts and ends. -/
abbrev St := List Nat × List Nat
/-- How a match ends: its end, or none; the captures. -/
abbrev Rs := Option Nat × St
/-- A class at a place. -/
def oneAt (src : List Int) (k : CK) (s : Nat) : Bool := decide (s < src.length) && (clOf k).has (byteAt src s)
/-- How many places from s on are so. -/
def runL (one : Nat → Bool) : Nat → Nat → Nat
  | 0, _ => 0
  | k + 1, s => if one s then runL one k (s + 1) + 1 else 0
/-- Attempts n, n-1, .., n-j. -/
def att (f : Nat → St → Rs) (n : Nat) : Nat → St → Rs
  | 0, st => f n st
  | j + 1, st => match att f n j st with
    | (some r, st') => (some r, st')
    | (none, st') => f (n - (j + 1)) st'
/-- Attempts at s, s+1, .. while the class has the byte. -/
def upw (f : Nat → St → Rs) (one : Nat → Bool) : Nat → Nat → St → Rs
  | 0, s, st => f s st
  | k + 1, s, st => match f s st with
    | (some r, st') => (some r, st')
    | (none, st') => if one s then upw f one k (s + 1) st' else (none, st')
/-- The reference's match. -/
def mt (src : List Int) (tail : Bool) : List Tk → Nat → St → Rs
  | [], s, st => if tail = true ∧ s ≠ src.length then (none, st) else (some s, st)
  | .cls k q :: ts, s, st =>
    if q = 42 ∨ q = 43 then
      if runL (oneAt src k) (src.length - s) s < (if q = 43 then 1 else 0) then (none, st)
      else att (fun j st => mt src tail ts (s + j) st) (runL (oneAt src k) (src.length - s) s) (runL (oneAt src k) (src.length - s) s - (if q = 43 then 1 else 0)) st
    else if q = 45 then upw (fun s st => mt src tail ts s st) (oneAt src k) (src.length - s) s st
    else if q = 63 then
      if oneAt src k s = true then
        match mt src tail ts (s + 1) st with
        | (some r, st') => (some r, st')
        | (none, st') => mt src tail ts s st'
      else mt src tail ts s st
    else if oneAt src k s = true then mt src tail ts (s + 1) st else (none, st)
  | .opn n :: ts, s, st => mt src tail ts s (st.1.set n s, st.2)
  | .clo n :: ts, s, st => mt src tail ts s (st.1, st.2.set n s)
  | .pos n :: ts, s, st => mt src tail ts s (st.1.set n (s + 1), st.2.set n (s + 1))
  | .ref n :: ts, s, st =>
    if s + (st.2.getD n 0 - st.1.getD n 0) ≤ src.length ∧ ∀ j, j < st.2.getD n 0 - st.1.getD n 0 → byteAt src (st.1.getD n 0 + j) = byteAt src (s + j) then mt src tail ts (s + (st.2.getD n 0 - st.1.getD n 0)) st
    else (none, st)
  | .brc x y :: ts, s, st =>
    if s < src.length ∧ byteAt src s = x then
      match braceRun src x y (s + 1) 1 with
      | none => (none, st)
      | some s' => mt src tail ts s' st
    else (none, st)

/-- What has been written: captures opened, position captures, captures closed. -/
structure Cx where
  o : List Nat
  p : List Nat
  c : List Nat
def Cx.adv (X : Cx) : Tk → Cx
  | .opn n => { X with o := n :: X.o }
  | .clo n => { X with c := n :: X.c }
  | .pos n => { X with p := n :: X.p }
  | _ => X
/-- Each capture is opened once, closed once after it; references are to what is closed. -/
def Lin (nc : Nat) : Cx → List Tk → Prop
  | _, [] => True
  | X, .cls k q :: ts => q ∈ quants ∧ Lin nc X ts
  | X, .opn n :: ts => 1 ≤ n ∧ n ≤ nc ∧ n ∉ X.o ∧ n ∉ X.p ∧ Lin nc (X.adv (.opn n)) ts
  | X, .clo n :: ts => 1 ≤ n ∧ n ≤ nc ∧ n ∈ X.o ∧ n ∉ X.p ∧ n ∉ X.c ∧ Lin nc (X.adv (.clo n)) ts
  | X, .pos n :: ts => 1 ≤ n ∧ n ≤ nc ∧ n ∉ X.o ∧ n ∉ X.p ∧ n ∉ X.c ∧ Lin nc (X.adv (.pos n)) ts
  | X, .ref n :: ts => n ∈ X.c ∧ n ≤ nc ∧ Lin nc X ts
  | X, .brc x y :: ts => Lin nc X ts

/-- The captures stand where they have been written. -/
def Same (X : Cx) (st st' : St) : Prop :=
  st'.1.length = st.1.length ∧ st'.2.length = st.2.length ∧ (∀ n, n ∈ X.o ∨ n ∈ X.p → st'.1.getD n 0 = st.1.getD n 0) ∧ (∀ n, n ∈ X.c ∨ n ∈ X.p → st'.2.getD n 0 = st.2.getD n 0)
theorem Same.refl (X : Cx) (st : St) : Same X st st := ⟨rfl, rfl, fun _ _ => rfl, fun _ _ => rfl⟩
theorem Same.trans {X : Cx} {a b c : St} (h : Same X a b) (k : Same X b c) : Same X a c :=
  ⟨k.1.trans h.1, k.2.1.trans h.2.1, fun n hn => (k.2.2.1 n hn).trans (h.2.2.1 n hn), fun n hn => (k.2.2.2 n hn).trans (h.2.2.2 n hn)⟩
theorem nat_set_ne {l : List Nat} {i j v : Nat} (h : i ≠ j) : (l.set i v).getD j 0 = l.getD j 0 := by
  rw [List.getD_eq_getElem?_getD, List.getElem?_set_ne h, ← List.getD_eq_getElem?_getD]
theorem nat_set_same {l : List Nat} {i v : Nat} (h : i < l.length) : (l.set i v).getD i 0 = v := by
  rw [List.getD_eq_getElem?_getD, List.getElem?_set_self h]; rfl
theorem Same.opn {X : Cx} {n s : Nat} {st st' : St} (ho : n ∉ X.o) (hp : n ∉ X.p) (h : Same (X.adv (.opn n)) (st.1.set n s, st.2) st') : Same X st st' := by
  obtain ⟨h1, h2, h3, h4⟩ := h
  refine ⟨by simpa using h1, h2, fun m hm => ?_, h4⟩
  rw [h3 m (hm.imp (fun h => List.mem_cons_of_mem _ h) id)]
  exact nat_set_ne (fun e => by subst e; exact hm.elim ho hp)
theorem Same.clo {X : Cx} {n s : Nat} {st st' : St} (hc : n ∉ X.c) (hp : n ∉ X.p) (h : Same (X.adv (.clo n)) (st.1, st.2.set n s) st') : Same X st st' := by
  obtain ⟨h1, h2, h3, h4⟩ := h
  refine ⟨h1, by simpa using h2, h3, fun m hm => ?_⟩
  rw [h4 m (hm.imp (fun h => List.mem_cons_of_mem _ h) id)]
  exact nat_set_ne (fun e => by subst e; exact hm.elim hc hp)
theorem Same.pos {X : Cx} {n s : Nat} {st st' : St} (ho : n ∉ X.o) (hc : n ∉ X.c) (hp : n ∉ X.p) (h : Same (X.adv (.pos n)) (st.1.set n s, st.2.set n s) st') : Same X st st' := by
  obtain ⟨h1, h2, h3, h4⟩ := h
  refine ⟨by simpa using h1, by simpa using h2, fun m hm => ?_, fun m hm => ?_⟩
  · rw [h3 m (hm.imp id (fun h => List.mem_cons_of_mem _ h))]
    exact nat_set_ne (fun e => by subst e; exact hm.elim ho hp)
  · rw [h4 m (hm.imp id (fun h => List.mem_cons_of_mem _ h))]
    exact nat_set_ne (fun e => by subst e; exact hm.elim hc hp)
theorem att_same {X : Cx} {f : Nat → St → Rs} (hf : ∀ j st, Same X st (f j st).2) (n : Nat) : ∀ (j : Nat) (st : St), Same X st (att f n j st).2
  | 0, st => hf n st
  | j + 1, st => by
    have h := att_same hf n j st
    unfold att
    generalize att f n j st = r at h ⊢
    obtain ⟨_ | r, st'⟩ := r
    · exact h.trans (hf _ _)
    · exact h
theorem upw_same {X : Cx} {f : Nat → St → Rs} {one : Nat → Bool} (hf : ∀ j st, Same X st (f j st).2) : ∀ (k s : Nat) (st : St), Same X st (upw f one k s st).2
  | 0, s, st => hf s st
  | k + 1, s, st => by
    have h := hf s st
    unfold upw
    generalize f s st = r at h ⊢
    obtain ⟨_ | r, st'⟩ := r
    · show Same X st (if one s = true then upw f one k (s + 1) st' else (none, st')).2
      split
      · exact h.trans (upw_same hf k _ _)
      · exact h
    · exact h
/-- What the match leaves of the captures that were written before. -/
theorem mt_same {src : List Int} {tail : Bool} {nc : Nat} : ∀ (ts : List Tk) (X : Cx) (s : Nat) (st : St), Lin nc X ts → Same X st (mt src tail ts s st).2
  | [], X, s, st, _ => by unfold mt; split <;> exact Same.refl _ _
  | .cls k q :: ts, X, s, st, h => by
    have ih : ∀ s st, Same X st (mt src tail ts s st).2 := fun s st => mt_same ts X s st h.2
    unfold mt
    by_cases hq : q = 42 ∨ q = 43
    · rw [if_pos hq]
      by_cases hr : runL (oneAt src k) (src.length - s) s < (if q = 43 then 1 else 0)
      · rw [if_pos hr]; exact Same.refl _ _
      · rw [if_neg hr]; exact att_same (fun j st => ih _ _) _ _ _
    · rw [if_neg hq]
      by_cases h45 : q = 45
      · rw [if_pos h45]; exact upw_same (fun j st => ih _ _) _ _ _
      · rw [if_neg h45]
        by_cases h63 : q = 63
        · rw [if_pos h63]
          by_cases ho : oneAt src k s = true
          · rw [if_pos ho]
            have h1 := ih (s + 1) st
            generalize mt src tail ts (s + 1) st = r at h1 ⊢
            obtain ⟨_ | r, st'⟩ := r
            · exact h1.trans (ih _ _)
            · exact h1
          · rw [if_neg ho]; exact ih _ _
        · rw [if_neg h63]
          by_cases ho : oneAt src k s = true
          · rw [if_pos ho]; exact ih _ _
          · rw [if_neg ho]; exact Same.refl _ _
  | .opn n :: ts, X, s, st, h => by unfold mt; exact Same.opn h.2.2.1 h.2.2.2.1 (mt_same ts _ _ _ h.2.2.2.2)
  | .clo n :: ts, X, s, st, h => by unfold mt; exact Same.clo h.2.2.2.2.1 h.2.2.2.1 (mt_same ts _ _ _ h.2.2.2.2.2)
  | .pos n :: ts, X, s, st, h => by unfold mt; exact Same.pos h.2.2.1 h.2.2.2.2.1 h.2.2.2.1 (mt_same ts _ _ _ h.2.2.2.2.2)
  | .ref n :: ts, X, s, st, h => by
    unfold mt
    split
    · exact mt_same ts X _ _ h.2.2
    · exact Same.refl _ _
  | .brc x y :: ts, X, s, st, h => by
    unfold mt
    split
    · generalize braceRun src x y (s + 1) 1 = r
      cases r with
      | none => exact Same.refl _ _
      | some s' => exact mt_same ts X _ _ h
    · exact Same.refl _ _

/-- The captures written so far lie below the place s, ends behind starts. -/
structure Ord (nc : Nat) (X : Cx) (s : Nat) (st : St) : Prop where
  l1 : st.1.length = nc + 1
  l2 : st.2.length = nc + 1
  o : ∀ n, n ∈ X.o → st.1.getD n 0 ≤ s
  c : ∀ n, n ∈ X.c → n ∈ X.o ∧ st.1.getD n 0 ≤ st.2.getD n 0 ∧ st.2.getD n 0 ≤ s
theorem Ord.mono {nc : Nat} {X : Cx} {s s' : Nat} {st : St} (h : Ord nc X s st) (hs : s ≤ s') : Ord nc X s' st :=
  ⟨h.l1, h.l2, fun n hn => Nat.le_trans (h.o n hn) hs, fun n hn => ⟨(h.c n hn).1, (h.c n hn).2.1, Nat.le_trans (h.c n hn).2.2 hs⟩⟩
theorem Ord.same {nc : Nat} {X : Cx} {s : Nat} {st st' : St} (h : Ord nc X s st) (k : Same X st st') : Ord nc X s st' :=
  ⟨k.1.trans h.l1, k.2.1.trans h.l2, fun n hn => by rw [k.2.2.1 n (.inl hn)]; exact h.o n hn, fun n hn => by
    rw [k.2.2.1 n (.inl (h.c n hn).1), k.2.2.2 n (.inl hn)]; exact h.c n hn⟩
theorem Ord.opn {nc n : Nat} {X : Cx} {s : Nat} {st : St} (h : Ord nc X s st) (h2 : n ≤ nc) (h3 : n ∉ X.o) : Ord nc (X.adv (.opn n)) s (st.1.set n s, st.2) := by
  refine ⟨by simpa using h.l1, h.l2, fun m hm => ?_, fun m hm => ?_⟩
  · rcases List.mem_cons.1 hm with rfl | hm
    · exact Nat.le_of_eq (nat_set_same (by rw [h.l1]; omega))
    · show (st.1.set n s).getD m 0 ≤ s
      rw [nat_set_ne (fun e => h3 (by rw [e]; exact hm))]
      exact h.o m hm
  · have hc := h.c m hm
    refine ⟨List.mem_cons_of_mem _ hc.1, ?_, hc.2.2⟩
    show (st.1.set n s).getD m 0 ≤ _
    rw [nat_set_ne (fun e => h3 (by rw [e]; exact hc.1))]
    exact hc.2.1
theorem Ord.clo {nc n : Nat} {X : Cx} {s : Nat} {st : St} (h : Ord nc X s st) (h2 : n ≤ nc) (h3 : n ∈ X.o) (h4 : n ∉ X.c) : Ord nc (X.adv (.clo n)) s (st.1, st.2.set n s) := by
  refine ⟨h.l1, by simpa using h.l2, h.o, fun m hm => ?_⟩
  rcases List.mem_cons.1 hm with rfl | hm
  · refine ⟨h3, ?_, ?_⟩
    · show _ ≤ (st.2.set m s).getD m 0
      rw [nat_set_same (by rw [h.l2]; omega)]; exact h.o m h3
    · show (st.2.set m s).getD m 0 ≤ s
      rw [nat_set_same (by rw [h.l2]; omega)]; exact Nat.le_refl _
  · have hc := h.c m hm
    refine ⟨hc.1, ?_, ?_⟩
    · show _ ≤ (st.2.set n s).getD m 0
      rw [nat_set_ne (fun e => h4 (by rw [e]; exact hm))]; exact hc.2.1
    · show (st.2.set n s).getD m 0 ≤ s
      rw [nat_set_ne (fun e => h4 (by rw [e]; exact hm))]; exact hc.2.2
theorem Ord.pos {nc n : Nat} {X : Cx} {s : Nat} {st : St} (h : Ord nc X s st) (h3 : n ∉ X.o) : Ord nc (X.adv (.pos n)) s (st.1.set n (s + 1), st.2.set n (s + 1)) := by
  refine ⟨by simpa using h.l1, by simpa using h.l2, fun m hm => ?_, fun m hm => ?_⟩
  · show (st.1.set n (s + 1)).getD m 0 ≤ s
    rw [nat_set_ne (fun e => h3 (by rw [e]; exact hm))]; exact h.o m hm
  · have hc := h.c m hm
    have hne : n ≠ m := fun e => h3 (by rw [e]; exact hc.1)
    refine ⟨hc.1, ?_, ?_⟩
    · show (st.1.set n (s + 1)).getD m 0 ≤ (st.2.set n (s + 1)).getD m 0
      rw [nat_set_ne hne, nat_set_ne hne]; exact hc.2.1
    · show (st.2.set n (s + 1)).getD m 0 ≤ s
      rw [nat_set_ne hne]; exact hc.2.2
theorem run_le {one : Nat → Bool} : ∀ (k s : Nat), runL one k s ≤ k
  | 0, s => Nat.le_refl _
  | k + 1, s => by
    unfold runL
    split
    · have := run_le (one := one) k (s + 1); omega
    · omega
/-- In the run each place is so; behind it none. -/
theorem run_in {one : Nat → Bool} : ∀ (k s j : Nat), j < runL one k s → one (s + j) = true
  | 0, s, j, h => by simp [runL] at h
  | k + 1, s, j, h => by
    unfold runL at h
    split at h
    · rename_i h1
      cases j with
      | zero => simpa using h1
      | succ j => have := run_in (one := one) k (s + 1) j (by omega); rw [show s + (j + 1) = s + 1 + j by omega]; exact this
    · omega
theorem run_out {one : Nat → Bool} : ∀ (k s : Nat), (∀ i, s + k ≤ i → one i = false) → one (s + runL one k s) = false
  | 0, s, h => h _ (by simp [runL])
  | k + 1, s, h => by
    unfold runL
    split
    · have := run_out (one := one) k (s + 1) (fun i hi => h i (by omega))
      rw [show s + (runL one k (s + 1) + 1) = s + 1 + runL one k (s + 1) by omega]; exact this
    · rename_i h1; simpa using h1
theorem oneAt_end {src : List Int} {k : CK} {i : Nat} (h : src.length ≤ i) : oneAt src k i = false := by unfold oneAt; rw [decide_eq_false (by omega)]; rfl
theorem oneAt_iff {src : List Int} {k : CK} {i : Nat} : oneAt src k i = true ↔ i < src.length ∧ (clOf k).has (byteAt src i) = true := by unfold oneAt; simp
theorem oneAt_no {src : List Int} {k : CK} {i : Nat} (h : oneAt src k i = false) : src.length ≤ i ∨ (clOf k).has (byteAt src i) = false := by
  rcases Nat.lt_or_ge i src.length with h1 | h1
  · right
    cases h2 : (clOf k).has (byteAt src i) with
    | false => rfl
    | true => rw [oneAt_iff.2 ⟨h1, h2⟩] at h; cases h
  · exact .inl h1

/-- The code of a token at the place p. -/
def codeOf (p : Nat) : Tk → List Ins
  | .cls k q => if q = 42 then [.split (p + 1) (p + 3), .chr (clOf k), .jmp p] else if q = 43 then [.chr (clOf k), .split p (p + 2)] else if q = 45 then [.split (p + 3) (p + 1), .chr (clOf k), .jmp p] else if q = 63 then [.split (p + 1) (p + 2), .chr (clOf k)] else [.chr (clOf k)]
  | .opn n => [.save (2 * n)]
  | .clo n => [.save (2 * n + 1)]
  | .pos n => [.psave (2 * n)]
  | .ref n => [.num (n : Int)]
  | .brc x y => [.brace x y]
def emit : Nat → List Tk → List Ins
  | _, [] => []
  | p, t :: ts => codeOf p t ++ emit (p + (codeOf p t).length) ts
theorem emit_app : ∀ (a b : List Tk) (p : Nat), emit p (a ++ b) = emit p a ++ emit (p + (emit p a).length) b
  | [], b, p => by simp [emit]
  | t :: a, b, p => by simp [emit, emit_app a b, Nat.add_assoc]


/-- The slots of what has been written. -/
def XSlot (X : Cx) (i : Nat) : Prop := i = 0 ∨ (∃ n, n ∈ X.o ∧ i = 2 * n) ∨ (∃ n, n ∈ X.c ∧ i = 2 * n + 1) ∨ ∃ n, n ∈ X.p ∧ (i = 2 * n ∨ i = 2 * n + 1)
/-- The words that the machine holds are those of the captures. -/
structure AgV (nc s0 : Nat) (X : Cx) (st : St) (us : List Int) : Prop where
  z : 0 < us.length ∧ us.getD 0 0 = capW (s0 : Int)
  o : ∀ n, n ∈ X.o → 1 ≤ n ∧ 2 * n < us.length ∧ us.getD (2 * n) 0 = capW ((st.1.getD n 0 : Nat) : Int)
  c : ∀ n, n ∈ X.c → 1 ≤ n ∧ 2 * n + 1 < us.length ∧ us.getD (2 * n + 1) 0 = capW ((st.2.getD n 0 : Nat) : Int)
  p : ∀ n, n ∈ X.p → 1 ≤ n ∧ 2 * n + 1 < us.length ∧ us.getD (2 * n) 0 = posW ((st.1.getD n 0 : Nat) : Int) ∧ us.getD (2 * n + 1) 0 = posW ((st.1.getD n 0 : Nat) : Int)
  len : us.length ≤ 2 * nc + 2
section
variable {nc s0 : Nat} {X Y : Cx} {st st' : St} {us us2 : List Int}
theorem AgV.same (h : AgV nc s0 X st us) (k : Same X st st') : AgV nc s0 X st' us :=
  ⟨h.z, fun n hn => by rw [k.2.2.1 n (.inl hn)]; exact h.o n hn, fun n hn => by rw [k.2.2.2 n (.inl hn)]; exact h.c n hn, fun n hn => by rw [k.2.2.1 n (.inr hn)]; exact h.p n hn, h.len⟩
theorem AgV.but (h : AgV nc s0 X st us) (hl : us.length ≤ us2.length) (hl2 : us2.length ≤ 2 * nc + 2) (hg : ∀ i, XSlot X i → us2.getD i 0 = us.getD i 0) : AgV nc s0 X st us2 where
  z := ⟨Nat.lt_of_lt_of_le h.z.1 hl, (hg 0 (.inl rfl)).trans h.z.2⟩
  o := fun n hn => ⟨(h.o n hn).1, Nat.lt_of_lt_of_le (h.o n hn).2.1 hl, (hg _ (.inr (.inl ⟨n, hn, rfl⟩))).trans (h.o n hn).2.2⟩
  c := fun n hn => ⟨(h.c n hn).1, Nat.lt_of_lt_of_le (h.c n hn).2.1 hl, (hg _ (.inr (.inr (.inl ⟨n, hn, rfl⟩)))).trans (h.c n hn).2.2⟩
  p := fun n hn => ⟨(h.p n hn).1, Nat.lt_of_lt_of_le (h.p n hn).2.1 hl, (hg _ (.inr (.inr (.inr ⟨n, hn, .inl rfl⟩)))).trans (h.p n hn).2.2.1, (hg _ (.inr (.inr (.inr ⟨n, hn, .inr rfl⟩)))).trans (h.p n hn).2.2.2⟩
  len := hl2
theorem AgV.weak (h : AgV nc s0 Y st us) (h1 : ∀ n, n ∈ X.o → n ∈ Y.o) (h2 : ∀ n, n ∈ X.p → n ∈ Y.p) (h3 : ∀ n, n ∈ X.c → n ∈ Y.c) : AgV nc s0 X st us :=
  ⟨h.z, fun n hn => h.o n (h1 n hn), fun n hn => h.c n (h3 n hn), fun n hn => h.p n (h2 n hn), h.len⟩
end
theorem set_ext_len (us : List Int) (k : Nat) (v : Int) : ((ext us (k + 1)).set k v).length = max us.length (k + 1) := by rw [List.length_set, length_ext]
theorem set_ext_ne {us : List Int} {k i : Nat} {v : Int} (h : i ≠ k) : ((ext us (k + 1)).set k v).getD i 0 = us.getD i 0 := by rw [getD_set_ne (Ne.symm h), getD_ext]
theorem set_ext_same {us : List Int} {k : Nat} {v : Int} : ((ext us (k + 1)).set k v).getD k 0 = v := getD_set_same (by rw [length_ext]; omega)

/-- How the machine's end answers to the reference's. -/
def RelV (nc s0 : Nat) (X Y : Cx) (L : Nat) (us : List Int) : Rs → Bool × Nat × List Int → Prop
  | (none, st'), (ok, _, us') => ok = false ∧ AgV nc s0 X st' us' ∧ us.length ≤ us'.length
  | (some t, st'), (ok, t', us') => ok = true ∧ t' = t ∧ t ≤ L ∧ Ord nc Y t st' ∧ AgV nc s0 Y st' us' ∧ 1 < us'.length ∧ us'.getD 1 0 = capW (t : Int)
theorem RelV.len {nc s0 L : Nat} {X Y : Cx} {us us1 : List Int} {m : Rs} {r : Bool × Nat × List Int} (h : RelV nc s0 X Y L us1 m r) (hl : us.length ≤ us1.length) : RelV nc s0 X Y L us m r := by
  obtain ⟨_ | t, st'⟩ := m
  · exact ⟨h.1, h.2.1, Nat.le_trans hl h.2.2⟩
  · exact h

theorem at_code {P A C R : List Ins} {i : Nat} {x : Ins} (hP : P = A ++ (C ++ R)) (h : C[i]? = some x) : P[A.length + i]? = some x := by
  have hi := (List.getElem?_eq_some_iff.1 h).1
  rw [hP, List.getElem?_append_right (by omega), Nat.add_sub_cancel_left, List.getElem?_append_left hi]; exact h
theorem at_code0 {P A C R : List Ins} {x : Ins} (hP : P = A ++ (C ++ R)) (h : C[0]? = some x) : P[A.length]? = some x := at_code (i := 0) hP h
/-- How deep the machine's calls of itself may lie. -/
def dep (L : Nat) : List Tk → Nat
  | [] => 2
  | .cls _ q :: ts => (if q = 42 ∨ q = 43 then L + 2 else 1) + dep L ts
  | .opn _ :: ts => 1 + dep L ts
  | .clo _ :: ts => 1 + dep L ts
  | _ :: ts => dep L ts
def fin (tail : Bool) : List Ins := (if tail then [.save 1, .tmat] else []) ++ [.save 1, .mat]

section
variable {src : List Int} {tail : Bool} {nc s0 : Nat} {Y : Cx} {P : List Ins}
/-- The law at the tokens ts. -/
def LawAt (src : List Int) (tail : Bool) (nc s0 : Nat) (Y : Cx) (P : List Ins) (ts : List Tk) : Prop :=
  ∀ (X : Cx) (A : List Ins), P = A ++ (emit A.length ts ++ fin tail) → ts.foldl Cx.adv X = Y → Lin nc X ts → ∀ (s : Nat) (st : St) (us : List Int) (d : Nat), dep src.length ts ≤ d → s ≤ src.length → Ord nc X s st → AgV nc s0 X st us →
    ∃ n r, VRun src P d n A.length s us r ∧ RelV nc s0 X Y src.length us (mt src tail ts s st) r
/-- What follows a class. -/
def RestAt (src : List Int) (tail : Bool) (nc s0 : Nat) (X Y : Cx) (P : List Ins) (ts : List Tk) (p : Nat) : Prop :=
  ∀ (s : Nat) (st : St) (us : List Int) (d : Nat), dep src.length ts ≤ d → s ≤ src.length → Ord nc X s st → AgV nc s0 X st us → ∃ n r, VRun src P d n p s us r ∧ RelV nc s0 X Y src.length us (mt src tail ts s st) r
theorem chrNo_at {d p s : Nat} {us : List Int} {k : CK} (hp : P[p]? = some (.chr (clOf k))) (h : oneAt src k s = false) : VRun src P d 0 p s us (false, s, us) := .chrNo hp (oneAt_no h)
theorem chrYes_at {d n p s : Nat} {us : List Int} {k : CK} {r : Bool × Nat × List Int} (hp : P[p]? = some (.chr (clOf k))) (h : oneAt src k s = true) (hr : VRun src P d n (p + 1) (s + 1) us r) : VRun src P d (n + 1) p s us r := .chrYes hp (oneAt_iff.1 h).1 (oneAt_iff.1 h).2 hr

theorem star_law {X : Cx} {ts : List Tk} {k : CK} {p s : Nat} (h0 : P[p]? = some (.split (p + 1) (p + 3))) (h1 : P[p + 1]? = some (.chr (clOf k))) (h2 : P[p + 2]? = some (.jmp p)) (hl : Lin nc X ts) (ih : RestAt src tail nc s0 X Y P ts (p + 3)) (hs : s ≤ src.length) :
    ∀ (j : Nat) (st : St) (us : List Int) (d : Nat), j ≤ runL (oneAt src k) (src.length - s) s → Ord nc X s st → AgV nc s0 X st us → dep src.length ts + j + 1 ≤ d →
      ∃ n r, VRun src P d n p (s + (runL (oneAt src k) (src.length - s) s - j)) us r ∧ RelV nc s0 X Y src.length us (att (fun j st => mt src tail ts (s + j) st) (runL (oneAt src k) (src.length - s) s) j st) r := by
  have hN := run_le (one := oneAt src k) (src.length - s) s
  have hout := run_out (one := oneAt src k) (src.length - s) s (fun i hi => oneAt_end (by omega))
  have hin := run_in (one := oneAt src k) (src.length - s) s
  generalize runL (oneAt src k) (src.length - s) s = N at hN hout hin ⊢
  intro j
  induction j with
  | zero =>
    intro st us d hj ho ha hd
    obtain ⟨d, rfl⟩ : ∃ d', d = d' + 1 := ⟨d - 1, by omega⟩
    obtain ⟨n, r, hv, hr⟩ := ih (s + N) st us (d + 1) (by omega) (by omega) (ho.mono (by omega)) ha
    exact ⟨n + 1, r, .splitB h0 (chrNo_at h1 hout) hv, hr⟩
  | succ j ihj =>
    intro st us d hj ho ha hd
    obtain ⟨d, rfl⟩ : ∃ d', d = d' + 1 := ⟨d - 1, by omega⟩
    obtain ⟨n1, r1, hv1, hr1⟩ := ihj st us d (by omega) ho ha (by omega)
    have hone := hin (N - (j + 1)) (by omega)
    have hsame := att_same (X := X) (f := fun j st => mt src tail ts (s + j) st) (fun j st => mt_same ts X _ _ hl) N j st
    have hv2 : VRun src P d (n1 + 1 + 1) (p + 1) (s + (N - (j + 1))) us r1 := by
      refine chrYes_at h1 hone (.jmp h2 ?_)
      rw [show s + (N - (j + 1)) + 1 = s + (N - j) by omega]; exact hv1
    unfold att
    generalize att (fun j st => mt src tail ts (s + j) st) N j st = m at hr1 hsame ⊢
    obtain ⟨_ | t, st1⟩ := m
    · obtain ⟨ok, s1, us1⟩ := r1
      obtain ⟨rfl, ha1, hl1⟩ := hr1
      obtain ⟨n, r, hv, hr⟩ := ih (s + (N - (j + 1))) st1 us1 (d + 1) (by omega) (by omega) ((ho.same hsame).mono (by omega)) ha1
      exact ⟨n + 1, r, .splitB h0 hv2 hv, hr.len hl1⟩
    · obtain ⟨ok, s1, us1⟩ := r1
      obtain ⟨rfl, rfl, hx⟩ := hr1
      exact ⟨0, _, .splitA h0 hv2, rfl, rfl, hx⟩
theorem plus_law {X : Cx} {ts : List Tk} {k : CK} {p s : Nat} (h0 : P[p]? = some (.chr (clOf k))) (h1 : P[p + 1]? = some (.split p (p + 2))) (hl : Lin nc X ts) (ih : RestAt src tail nc s0 X Y P ts (p + 2)) (hs : s ≤ src.length) :
    ∀ (j : Nat) (st : St) (us : List Int) (d : Nat), j + 1 ≤ runL (oneAt src k) (src.length - s) s → Ord nc X s st → AgV nc s0 X st us → dep src.length ts + j + 1 ≤ d →
      ∃ n r, VRun src P d n (p + 1) (s + (runL (oneAt src k) (src.length - s) s - j)) us r ∧ RelV nc s0 X Y src.length us (att (fun j st => mt src tail ts (s + j) st) (runL (oneAt src k) (src.length - s) s) j st) r := by
  have hN := run_le (one := oneAt src k) (src.length - s) s
  have hout := run_out (one := oneAt src k) (src.length - s) s (fun i hi => oneAt_end (by omega))
  have hin := run_in (one := oneAt src k) (src.length - s) s
  generalize runL (oneAt src k) (src.length - s) s = N at hN hout hin ⊢
  intro j
  induction j with
  | zero =>
    intro st us d hj ho ha hd
    obtain ⟨d, rfl⟩ : ∃ d', d = d' + 1 := ⟨d - 1, by omega⟩
    obtain ⟨n, r, hv, hr⟩ := ih (s + N) st us (d + 1) (by omega) (by omega) (ho.mono (by omega)) ha
    exact ⟨n + 1, r, .splitB h1 (chrNo_at h0 hout) hv, hr⟩
  | succ j ihj =>
    intro st us d hj ho ha hd
    obtain ⟨d, rfl⟩ : ∃ d', d = d' + 1 := ⟨d - 1, by omega⟩
    obtain ⟨n1, r1, hv1, hr1⟩ := ihj st us d (by omega) ho ha (by omega)
    have hone := hin (N - (j + 1)) (by omega)
    have hsame := att_same (X := X) (f := fun j st => mt src tail ts (s + j) st) (fun j st => mt_same ts X _ _ hl) N j st
    have hv2 : VRun src P d (n1 + 1) p (s + (N - (j + 1))) us r1 := by
      refine chrYes_at h0 hone ?_
      rw [show s + (N - (j + 1)) + 1 = s + (N - j) by omega]; exact hv1
    unfold att
    generalize att (fun j st => mt src tail ts (s + j) st) N j st = m at hr1 hsame ⊢
    obtain ⟨_ | t, st1⟩ := m
    · obtain ⟨ok, s1, us1⟩ := r1
      obtain ⟨rfl, ha1, hl1⟩ := hr1
      obtain ⟨n, r, hv, hr⟩ := ih (s + (N - (j + 1))) st1 us1 (d + 1) (by omega) (by omega) ((ho.same hsame).mono (by omega)) ha1
      exact ⟨n + 1, r, .splitB h1 hv2 hv, hr.len hl1⟩
    · obtain ⟨ok, s1, us1⟩ := r1
      obtain ⟨rfl, rfl, hx⟩ := hr1
      exact ⟨0, _, .splitA h1 hv2, rfl, rfl, hx⟩
theorem minus_law {X : Cx} {ts : List Tk} {k : CK} {p : Nat} (h0 : P[p]? = some (.split (p + 3) (p + 1))) (h1 : P[p + 1]? = some (.chr (clOf k))) (h2 : P[p + 2]? = some (.jmp p)) (hl : Lin nc X ts) (ih : RestAt src tail nc s0 X Y P ts (p + 3)) {d : Nat} (hd : dep src.length ts ≤ d) :
    ∀ (m s : Nat) (st : St) (us : List Int), m = src.length - s → s ≤ src.length → Ord nc X s st → AgV nc s0 X st us →
      ∃ n r, VRun src P (d + 1) n p s us r ∧ RelV nc s0 X Y src.length us (upw (fun s st => mt src tail ts s st) (oneAt src k) m s st) r := by
  intro m
  induction m with
  | zero =>
    intro s st us hm hs ho ha
    obtain ⟨n1, r1, hv1, hr1⟩ := ih s st us d hd hs ho ha
    unfold upw
    generalize mt src tail ts s st = m at hr1 ⊢
    obtain ⟨_ | t, st1⟩ := m
    · obtain ⟨ok, s1, us1⟩ := r1
      obtain ⟨rfl, ha1, hl1⟩ := hr1
      exact ⟨_, _, .splitB h0 hv1 (chrNo_at h1 (oneAt_end (by omega))), rfl, ha1, hl1⟩
    · obtain ⟨ok, s1, us1⟩ := r1
      obtain ⟨rfl, rfl, hx⟩ := hr1
      exact ⟨0, _, .splitA h0 hv1, rfl, rfl, hx⟩
  | succ m ihm =>
    intro s st us hm hs ho ha
    obtain ⟨n1, r1, hv1, hr1⟩ := ih s st us d hd hs ho ha
    have hsame := mt_same (src := src) (tail := tail) ts X s st hl
    unfold upw
    generalize mt src tail ts s st = mm at hr1 hsame ⊢
    obtain ⟨_ | t, st1⟩ := mm
    · obtain ⟨ok, s1, us1⟩ := r1
      obtain ⟨rfl, ha1, hl1⟩ := hr1
      show ∃ n r, _ ∧ RelV nc s0 X Y src.length us (if oneAt src k s = true then upw (fun s st => mt src tail ts s st) (oneAt src k) m (s + 1) st1 else (none, st1)) r
      by_cases hone : oneAt src k s = true
      · rw [if_pos hone]
        obtain ⟨n, r, hv, hr⟩ := ihm (s + 1) st1 us1 (by omega) (by omega) ((ho.same hsame).mono (by omega)) ha1
        exact ⟨_, r, .splitB h0 hv1 (chrYes_at h1 hone (.jmp h2 hv)), hr.len hl1⟩
      · rw [if_neg hone]
        exact ⟨_, _, .splitB h0 hv1 (chrNo_at h1 (by simpa using hone)), rfl, ha1, hl1⟩
    · obtain ⟨ok, s1, us1⟩ := r1
      obtain ⟨rfl, rfl, hx⟩ := hr1
      exact ⟨0, _, .splitA h0 hv1, rfl, rfl, hx⟩
theorem opt_law {X : Cx} {ts : List Tk} {k : CK} {p s : Nat} (h0 : P[p]? = some (.split (p + 1) (p + 2))) (h1 : P[p + 1]? = some (.chr (clOf k))) (hl : Lin nc X ts) (ih : RestAt src tail nc s0 X Y P ts (p + 2)) {d : Nat} (hd : dep src.length ts ≤ d) {st : St} {us : List Int} (hs : s ≤ src.length) (ho : Ord nc X s st) (ha : AgV nc s0 X st us) :
    ∃ n r, VRun src P (d + 1) n p s us r ∧ RelV nc s0 X Y src.length us (if oneAt src k s = true then match mt src tail ts (s + 1) st with
        | (some r, st') => (some r, st')
        | (none, st') => mt src tail ts s st'
      else mt src tail ts s st) r := by
  by_cases hone : oneAt src k s = true
  · rw [if_pos hone]
    have hlt := (oneAt_iff.1 hone).1
    obtain ⟨n1, r1, hv1, hr1⟩ := ih (s + 1) st us d hd (by omega) (ho.mono (by omega)) ha
    have hsame := mt_same (src := src) (tail := tail) ts X (s + 1) st hl
    generalize mt src tail ts (s + 1) st = mm at hr1 hsame ⊢
    obtain ⟨_ | t, st1⟩ := mm
    · obtain ⟨ok, s1, us1⟩ := r1
      obtain ⟨rfl, ha1, hl1⟩ := hr1
      obtain ⟨n, r, hv, hr⟩ := ih s st1 us1 (d + 1) (by omega) hs (ho.same hsame) ha1
      exact ⟨_, r, .splitB h0 (chrYes_at h1 hone hv1) hv, hr.len hl1⟩
    · obtain ⟨ok, s1, us1⟩ := r1
      obtain ⟨rfl, rfl, hx⟩ := hr1
      exact ⟨0, _, .splitA h0 (chrYes_at h1 hone hv1), rfl, rfl, hx⟩
  · rw [if_neg hone]
    obtain ⟨n, r, hv, hr⟩ := ih s st us (d + 1) (by omega) hs ho ha
    exact ⟨_, r, .splitB h0 (chrNo_at h1 (by simpa using hone)) hv, hr⟩
theorem brace_ge {b e : Int} : ∀ (n sp : Nat) (count : Int) (s' : Nat), src.length - sp = n → braceRun src b e sp count = some s' → sp < s'
  | 0, sp, count, s', hn, h => by rw [brace_end (by omega)] at h; cases h
  | n + 1, sp, count, s', hn, h => by
    by_cases hc : (if byteAt src sp = e then count - 1 else count) = 0
    · rw [brace_done (by omega) rfl hc] at h; injection h with h; omega
    · rw [brace_on (by omega) rfl rfl hc rfl] at h; have := brace_ge n _ _ _ (by omega) h; omega
theorem capV_cap {us : List Int} {i v : Nat} (h : us.getD i 0 = capW (v : Int)) (hv : v < 2147483648) : capV us i = v := by
  unfold capV
  rw [h, capW_val]
  omega
/-- Behind the tokens. -/
theorem end_law {X : Cx} {A : List Ins} (hP : P = A ++ fin tail) (hY : X = Y) {s : Nat} {st : St} {us : List Int} {d : Nat} (hd : 2 ≤ d) (hs : s ≤ src.length) (ho : Ord nc X s st) (ha : AgV nc s0 X st us) :
    ∃ n r, VRun src P d n A.length s us r ∧ RelV nc s0 X Y src.length us (if tail = true ∧ s ≠ src.length then (none, st) else (some s, st)) r := by
  subst hY
  obtain ⟨d, rfl⟩ : ∃ d', d = d' + 1 := ⟨d - 1, by omega⟩
  have hfree : ∀ i, XSlot X i → i ≠ 1 := by
    rintro i (rfl | ⟨n, hn, rfl⟩ | ⟨n, hn, rfl⟩ | ⟨n, hn, rfl | rfl⟩)
    · omega
    · have := (ha.o n hn).1; omega
    · have := (ha.c n hn).1; omega
    · have := (ha.p n hn).1; omega
    · have := (ha.p n hn).1; omega
  have hlen1 := set_ext_len us 1 (capW (s : Int))
  have ha1 : AgV nc s0 X st ((ext us 2).set 1 (capW (s : Int))) := ha.but (by rw [hlen1]; omega) (by rw [hlen1]; have := ha.len; omega) (fun i hi => set_ext_ne (hfree i hi))
  cases tail with
  | false =>
    rw [if_neg (by simp)]
    have h0 : P[A.length]? = some (.save 1) := at_code0 (C := [.save 1, .mat]) (R := []) (by rw [hP]; simp [fin]) rfl
    have h1 : P[A.length + 1]? = some .mat := at_code (i := 1) (C := [.save 1, .mat]) (R := []) (by rw [hP]; simp [fin]) rfl
    exact ⟨0, _, .saveYes (m := 0) h0 (.mat h1), rfl, rfl, hs, ho, ha1, by rw [hlen1]; omega, set_ext_same⟩
  | true =>
    have h0 : P[A.length]? = some (.save 1) := at_code0 (C := [.save 1, .tmat, .save 1, .mat]) (R := []) (by rw [hP]; simp [fin]) rfl
    have h1 : P[A.length + 1]? = some .tmat := at_code (i := 1) (C := [.save 1, .tmat, .save 1, .mat]) (R := []) (by rw [hP]; simp [fin]) rfl
    have hv : VRun src P d 0 (A.length + 1) s ((ext us 2).set 1 (capW (s : Int))) (decide (src.length ≤ s), s, (ext us 2).set 1 (capW (s : Int))) := .tmat h1
    by_cases he : s = src.length
    · rw [if_neg (by simp [he])]
      rw [decide_eq_true (by omega)] at hv
      exact ⟨0, _, .saveYes h0 hv, rfl, rfl, hs, ho, ha1, by rw [hlen1]; omega, set_ext_same⟩
    · rw [if_pos ⟨rfl, he⟩]
      rw [decide_eq_false (by omega)] at hv
      refine ⟨0, _, .saveNo h0 hv (by rw [hlen1]; omega), rfl, ha1.but (by simp) (by simpa using ha1.len) (fun i hi => getD_set_ne (Ne.symm (hfree i hi))), ?_⟩
      simp only [List.length_set, length_ext]; omega
theorem save_law {X X' : Cx} {ts : List Tk} {A : List Ins} {k s : Nat} {st1 : St} {us : List Int} {d : Nat} (h0 : P[A.length]? = some (.save k)) (hk : k < 2 * nc + 2) (hf : ¬ XSlot X k) (h1 : ∀ n, n ∈ X.o → n ∈ X'.o) (h2 : ∀ n, n ∈ X.p → n ∈ X'.p) (h3 : ∀ n, n ∈ X.c → n ∈ X'.c)
    (ih : ∃ n r, VRun src P d n (A.length + 1) s ((ext us (k + 1)).set k (capW (s : Int))) r ∧ RelV nc s0 X' Y src.length ((ext us (k + 1)).set k (capW (s : Int))) (mt src tail ts s st1) r) :
    ∃ n r, VRun src P (d + 1) n A.length s us r ∧ RelV nc s0 X Y src.length us (mt src tail ts s st1) r := by
  obtain ⟨n1, r1, hv1, hr1⟩ := ih
  have hlen1 := set_ext_len us k (capW (s : Int))
  generalize mt src tail ts s st1 = m at hr1 ⊢
  obtain ⟨_ | t, st2⟩ := m
  · obtain ⟨ok, s1, us1⟩ := r1
    obtain ⟨rfl, ha1, hl1⟩ := hr1
    rw [hlen1] at hl1
    refine ⟨0, _, .saveNo h0 hv1 (by omega), rfl, (ha1.weak h1 h2 h3).but (by simp) (by simpa using ha1.len) (fun i hi => getD_set_ne (fun e => hf (by rw [e]; exact hi))), ?_⟩
    simp only [List.length_set]; omega
  · obtain ⟨ok, s1, us1⟩ := r1
    obtain ⟨rfl, rfl, hx⟩ := hr1
    exact ⟨0, _, .saveYes h0 hv1, rfl, rfl, hx⟩
/-- The machine over the tokens' code runs as the reference's match. -/
theorem vm_law (hby : ∀ z, z ∈ src → 0 ≤ z ∧ z ≤ 255) (hlen : src.length ≤ 1048576) : ∀ ts : List Tk, LawAt src tail nc s0 Y P ts
  | [] => fun X A hP hY hl s st us d hd hs ho ha => end_law (by simpa [emit] using hP) hY hd hs ho ha
  | .cls k q :: ts => fun X A hP hY hl s st us d hd hs ho ha => by
    have ih := vm_law hby hlen ts
    have hP1 : P = A ++ (codeOf A.length (.cls k q) ++ (emit (A.length + (codeOf A.length (.cls k q)).length) ts ++ fin tail)) := by rw [hP]; simp [emit]
    have ih' : RestAt src tail nc s0 X Y P ts (A.length + (codeOf A.length (.cls k q)).length) := fun s st us d hd hs ho ha => by
      have := ih X (A ++ codeOf A.length (.cls k q)) (by rw [hP1]; simp) hY hl.2 s st us d hd hs ho ha
      rwa [List.length_append] at this
    by_cases h42 : q = 42
    · subst h42
      have hc : codeOf A.length (.cls k 42) = [.split (A.length + 1) (A.length + 3), .chr (clOf k), .jmp A.length] := rfl
      rw [hc] at hP1 ih'
      simp only [dep, true_or, if_true] at hd
      have hN := run_le (one := oneAt src k) (src.length - s) s
      have := star_law (at_code0 hP1 rfl) (at_code (i := 1) hP1 rfl) (at_code (i := 2) hP1 rfl) hl.2 ih' hs (runL (oneAt src k) (src.length - s) s) st us d (Nat.le_refl _) ho ha (by omega)
      rw [Nat.sub_self, Nat.add_zero] at this
      simpa [mt] using this
    · by_cases h43 : q = 43
      · subst h43
        have hc : codeOf A.length (.cls k 43) = [.chr (clOf k), .split A.length (A.length + 2)] := rfl
        rw [hc] at hP1 ih'
        simp only [dep, or_true, if_true] at hd
        have hN := run_le (one := oneAt src k) (src.length - s) s
        have hin := run_in (one := oneAt src k) (src.length - s) s
        have hout := run_out (one := oneAt src k) (src.length - s) s (fun i hi => oneAt_end (by omega))
        unfold mt
        rw [if_pos (.inr rfl), if_pos rfl]
        by_cases h0 : runL (oneAt src k) (src.length - s) s < 1
        · rw [if_pos h0]
          have hz : runL (oneAt src k) (src.length - s) s = 0 := by omega
          rw [hz] at hout
          exact ⟨0, _, chrNo_at (at_code0 hP1 rfl) hout, rfl, ha, Nat.le_refl _⟩
        · rw [if_neg h0]
          obtain ⟨n, r, hv, hr⟩ := plus_law (at_code0 hP1 rfl) (at_code (i := 1) hP1 rfl) hl.2 ih' hs (runL (oneAt src k) (src.length - s) s - 1) st us d (by omega) ho ha (by omega)
          rw [show runL (oneAt src k) (src.length - s) s - (runL (oneAt src k) (src.length - s) s - 1) = 1 by omega] at hv
          exact ⟨_, r, chrYes_at (at_code0 hP1 rfl) (hin 0 (by omega)) hv, hr⟩
      · have h4 : ¬ (q = 42 ∨ q = 43) := by omega
        simp only [dep, if_neg h4] at hd
        obtain ⟨d, rfl⟩ : ∃ d', d = d' + 1 := ⟨d - 1, by omega⟩
        by_cases h45 : q = 45
        · subst h45
          have hc : codeOf A.length (.cls k 45) = [.split (A.length + 3) (A.length + 1), .chr (clOf k), .jmp A.length] := rfl
          rw [hc] at hP1 ih'
          have := minus_law (at_code0 hP1 rfl) (at_code (i := 1) hP1 rfl) (at_code (i := 2) hP1 rfl) hl.2 ih' (d := d) (by omega) _ s st us rfl hs ho ha
          unfold mt
          rw [if_neg h4, if_pos rfl]
          exact this
        · by_cases h63 : q = 63
          · subst h63
            have hc : codeOf A.length (.cls k 63) = [.split (A.length + 1) (A.length + 2), .chr (clOf k)] := rfl
            rw [hc] at hP1 ih'
            have := opt_law (at_code0 hP1 rfl) (at_code (i := 1) hP1 rfl) hl.2 ih' (d := d) (by omega) hs ho ha
            unfold mt
            rw [if_neg h4, if_neg h45, if_pos rfl]
            exact this
          · have hc : codeOf A.length (.cls k q) = [.chr (clOf k)] := by simp only [codeOf, if_neg h42, if_neg h43, if_neg h45, if_neg h63]
            rw [hc] at hP1 ih'
            unfold mt
            rw [if_neg h4, if_neg h45, if_neg h63]
            by_cases hone : oneAt src k s = true
            · rw [if_pos hone]
              have hlt := (oneAt_iff.1 hone).1
              obtain ⟨n, r, hv, hr⟩ := ih' (s + 1) st us (d + 1) (by omega) (by omega) (ho.mono (by omega)) ha
              exact ⟨_, r, chrYes_at (at_code0 hP1 rfl) hone hv, hr⟩
            · rw [if_neg hone]
              exact ⟨0, _, chrNo_at (at_code0 hP1 rfl) (by simpa using hone), rfl, ha, Nat.le_refl _⟩
  | .opn n :: ts => fun X A hP hY hl s st us d hd hs ho ha => by
    obtain ⟨h1n, hnn, hno, hnp, hl'⟩ := hl
    have hP1 : P = A ++ ([.save (2 * n)] ++ (emit (A.length + 1) ts ++ fin tail)) := by rw [hP]; simp [emit, codeOf]
    simp only [dep] at hd
    obtain ⟨d, rfl⟩ : ∃ d', d = d' + 1 := ⟨d - 1, by omega⟩
    have hlen1 := set_ext_len us (2 * n) (capW (s : Int))
    have hf : ¬ XSlot X (2 * n) := by
      rintro (h | ⟨m, hm, h⟩ | ⟨m, hm, h⟩ | ⟨m, hm, h | h⟩)
      · omega
      · obtain rfl : n = m := by omega
        exact hno hm
      · omega
      · obtain rfl : n = m := by omega
        exact hnp hm
      · omega
    have hb := ha.but (us2 := (ext us (2 * n + 1)).set (2 * n) (capW (s : Int))) (by rw [hlen1]; omega) (by rw [hlen1]; have := ha.len; omega) (fun i hi => set_ext_ne (fun e => hf (by rw [← e]; exact hi)))
    have ha1 : AgV nc s0 (X.adv (.opn n)) (st.1.set n s, st.2) ((ext us (2 * n + 1)).set (2 * n) (capW (s : Int))) := by
      refine ⟨hb.z, fun m hm => ?_, hb.c, fun m hm => ?_, hb.len⟩
      · rcases List.mem_cons.1 hm with rfl | hm
        · refine ⟨h1n, by rw [hlen1]; omega, ?_⟩
          rw [set_ext_same]
          show _ = capW (((st.1.set m s).getD m 0 : Nat) : Int)
          rw [nat_set_same (by rw [ho.l1]; omega)]
        · have := hb.o m hm
          refine ⟨this.1, this.2.1, ?_⟩
          show _ = capW (((st.1.set n s).getD m 0 : Nat) : Int)
          rw [nat_set_ne (fun e => hno (by rw [e]; exact hm))]
          exact this.2.2
      · have := hb.p m hm
        refine ⟨this.1, this.2.1, ?_⟩
        show _ = posW (((st.1.set n s).getD m 0 : Nat) : Int) ∧ _ = posW (((st.1.set n s).getD m 0 : Nat) : Int)
        rw [nat_set_ne (fun e => hnp (by rw [e]; exact hm))]
        exact this.2.2
    have ih := vm_law hby hlen ts (X.adv (.opn n)) (A ++ [.save (2 * n)]) (by rw [hP1]; simp) hY hl' s (st.1.set n s, st.2) _ d (by omega) hs (ho.opn hnn hno) ha1
    rw [List.length_append] at ih
    rw [show mt src tail (.opn n :: ts) s st = mt src tail ts s (st.1.set n s, st.2) by rw [mt]]
    exact save_law (X' := X.adv (.opn n)) (at_code0 hP1 rfl) (by omega) hf (fun m hm => List.mem_cons_of_mem _ hm) (fun m hm => hm) (fun m hm => hm) ih
  | .clo n :: ts => fun X A hP hY hl s st us d hd hs ho ha => by
    obtain ⟨h1n, hnn, hno, hnp, hnc, hl'⟩ := hl
    have hP1 : P = A ++ ([.save (2 * n + 1)] ++ (emit (A.length + 1) ts ++ fin tail)) := by rw [hP]; simp [emit, codeOf]
    simp only [dep] at hd
    obtain ⟨d, rfl⟩ : ∃ d', d = d' + 1 := ⟨d - 1, by omega⟩
    have hlen1 := set_ext_len us (2 * n + 1) (capW (s : Int))
    have hf : ¬ XSlot X (2 * n + 1) := by
      rintro (h | ⟨m, hm, h⟩ | ⟨m, hm, h⟩ | ⟨m, hm, h | h⟩)
      · omega
      · omega
      · obtain rfl : n = m := by omega
        exact hnc hm
      · omega
      · obtain rfl : n = m := by omega
        exact hnp hm
    have hb := ha.but (us2 := (ext us (2 * n + 1 + 1)).set (2 * n + 1) (capW (s : Int))) (by rw [hlen1]; omega) (by rw [hlen1]; have := ha.len; omega) (fun i hi => set_ext_ne (fun e => hf (by rw [← e]; exact hi)))
    have ha1 : AgV nc s0 (X.adv (.clo n)) (st.1, st.2.set n s) ((ext us (2 * n + 1 + 1)).set (2 * n + 1) (capW (s : Int))) := by
      refine ⟨hb.z, hb.o, fun m hm => ?_, hb.p, hb.len⟩
      rcases List.mem_cons.1 hm with rfl | hm
      · refine ⟨h1n, by rw [hlen1]; omega, ?_⟩
        rw [set_ext_same]
        show _ = capW (((st.2.set m s).getD m 0 : Nat) : Int)
        rw [nat_set_same (by rw [ho.l2]; omega)]
      · have := hb.c m hm
        refine ⟨this.1, this.2.1, ?_⟩
        show _ = capW (((st.2.set n s).getD m 0 : Nat) : Int)
        rw [nat_set_ne (fun e => hnc (by rw [e]; exact hm))]
        exact this.2.2
    have ih := vm_law hby hlen ts (X.adv (.clo n)) (A ++ [.save (2 * n + 1)]) (by rw [hP1]; simp) hY hl' s (st.1, st.2.set n s) _ d (by omega) hs (ho.clo hnn hno hnc) ha1
    rw [List.length_append] at ih
    rw [show mt src tail (.clo n :: ts) s st = mt src tail ts s (st.1, st.2.set n s) by rw [mt]]
    exact save_law (X' := X.adv (.clo n)) (at_code0 hP1 rfl) (by omega) hf (fun m hm => hm) (fun m hm => hm) (fun m hm => List.mem_cons_of_mem _ hm) ih
  | .pos n :: ts => fun X A hP hY hl s st us d hd hs ho ha => by
    obtain ⟨h1n, hnn, hno, hnp, hnc, hl'⟩ := hl
    have hP1 : P = A ++ ([.psave (2 * n)] ++ (emit (A.length + 1) ts ++ fin tail)) := by rw [hP]; simp [emit, codeOf]
    simp only [dep] at hd
    obtain ⟨us2, hus2⟩ : ∃ x, ((ext us (2 * n + 2)).set (2 * n) (posW ((s : Int) + 1))).set (2 * n + 1) (posW ((s : Int) + 1)) = x := ⟨_, rfl⟩
    have hlen1 : us2.length = max us.length (2 * n + 2) := by rw [← hus2, List.length_set, List.length_set, length_ext]
    have hg : ∀ i, i ≠ 2 * n → i ≠ 2 * n + 1 → us2.getD i 0 = us.getD i 0 := fun i h1 h2 => by rw [← hus2, getD_set_ne (Ne.symm h2), getD_set_ne (Ne.symm h1), getD_ext]
    have hs1 : us2.getD (2 * n) 0 = posW ((s : Int) + 1) := by rw [← hus2, getD_set_ne (by omega), getD_set_same (by rw [length_ext]; omega)]
    have hs2 : us2.getD (2 * n + 1) 0 = posW ((s : Int) + 1) := by rw [← hus2, getD_set_same (by rw [List.length_set, length_ext]; omega)]
    have hf : ∀ i, XSlot X i → i ≠ 2 * n ∧ i ≠ 2 * n + 1 := by
      rintro i (rfl | ⟨m, hm, rfl⟩ | ⟨m, hm, rfl⟩ | ⟨m, hm, rfl | rfl⟩)
      · omega
      · exact ⟨fun e => hno (by rw [show n = m by omega]; exact hm), by omega⟩
      · exact ⟨by omega, fun e => hnc (by rw [show n = m by omega]; exact hm)⟩
      · exact ⟨fun e => hnp (by rw [show n = m by omega]; exact hm), by omega⟩
      · exact ⟨by omega, fun e => hnp (by rw [show n = m by omega]; exact hm)⟩
    have hb := ha.but (us2 := us2) (by rw [hlen1]; omega) (by rw [hlen1]; have := ha.len; omega) (fun i hi => hg i (hf i hi).1 (hf i hi).2)
    have ha1 : AgV nc s0 (X.adv (.pos n)) (st.1.set n (s + 1), st.2.set n (s + 1)) us2 := by
      refine ⟨hb.z, fun m hm => ?_, fun m hm => ?_, fun m hm => ?_, hb.len⟩
      · have := hb.o m hm
        refine ⟨this.1, this.2.1, ?_⟩
        show _ = capW (((st.1.set n (s + 1)).getD m 0 : Nat) : Int)
        rw [nat_set_ne (fun e => hno (by rw [e]; exact hm))]
        exact this.2.2
      · have := hb.c m hm
        refine ⟨this.1, this.2.1, ?_⟩
        show _ = capW (((st.2.set n (s + 1)).getD m 0 : Nat) : Int)
        rw [nat_set_ne (fun e => hnc (by rw [e]; exact hm))]
        exact this.2.2
      · rcases List.mem_cons.1 hm with rfl | hm
        · refine ⟨h1n, by rw [hlen1]; omega, ?_⟩
          show _ = posW (((st.1.set m (s + 1)).getD m 0 : Nat) : Int) ∧ _ = posW (((st.1.set m (s + 1)).getD m 0 : Nat) : Int)
          rw [nat_set_same (by rw [ho.l1]; omega), hs1, hs2]
          exact ⟨rfl, rfl⟩
        · have := hb.p m hm
          refine ⟨this.1, this.2.1, ?_⟩
          show _ = posW (((st.1.set n (s + 1)).getD m 0 : Nat) : Int) ∧ _ = posW (((st.1.set n (s + 1)).getD m 0 : Nat) : Int)
          rw [nat_set_ne (fun e => hnp (by rw [e]; exact hm))]
          exact this.2.2
    have ih := vm_law hby hlen ts (X.adv (.pos n)) (A ++ [.psave (2 * n)]) (by rw [hP1]; simp) hY hl' s (st.1.set n (s + 1), st.2.set n (s + 1)) us2 d (by omega) hs (ho.pos hno) ha1
    rw [List.length_append] at ih
    obtain ⟨m, r, hv, hr⟩ := ih
    refine ⟨m + 1, r, .psave (at_code0 hP1 rfl) (by rw [hus2]; exact hv), ?_⟩
    unfold mt
    generalize mt src tail ts s (st.1.set n (s + 1), st.2.set n (s + 1)) = mm at hr ⊢
    obtain ⟨_ | t, st2⟩ := mm
    · exact ⟨hr.1, hr.2.1.weak (fun m hm => hm) (fun m hm => List.mem_cons_of_mem _ hm) (fun m hm => hm), by have := hr.2.2; rw [hlen1] at this; omega⟩
    · exact hr
  | .ref n :: ts => fun X A hP hY hl s st us d hd hs ho ha => by
    obtain ⟨hnc, hnn, hl'⟩ := hl
    have hP1 : P = A ++ ([.num (n : Int)] ++ (emit (A.length + 1) ts ++ fin tail)) := by rw [hP]; simp [emit, codeOf]
    simp only [dep] at hd
    have hc := ha.c n hnc
    have hord := ho.c n hnc
    have hoo := ha.o n hord.1
    have hst1 := ho.o n hord.1
    have hlo : capV us (n * 2) = st.1.getD n 0 := capV_cap (by rw [Nat.mul_comm]; exact hoo.2.2) (by omega)
    have hhi : capV us (n * 2 + 1) = st.2.getD n 0 := capV_cap (by rw [Nat.mul_comm]; exact hc.2.2) (by omega)
    have hlt : n * 2 + 1 < us.length := by omega
    unfold mt
    by_cases hq : s + (st.2.getD n 0 - st.1.getD n 0) ≤ src.length ∧ ∀ j, j < st.2.getD n 0 - st.1.getD n 0 → byteAt src (st.1.getD n 0 + j) = byteAt src (s + j)
    · rw [if_pos hq]
      have ih := vm_law hby hlen ts X (A ++ [.num (n : Int)]) (by rw [hP1]; simp) hY hl' (s + (st.2.getD n 0 - st.1.getD n 0)) st us d (by omega) hq.1 (ho.mono (by omega)) ha
      rw [List.length_append] at ih
      obtain ⟨m, r, hv, hr⟩ := ih
      exact ⟨m + 1, r, .numYes (k := n) (at_code0 hP1 rfl) hlt (by rw [hlo, hhi]; exact hord.2.1) (by rw [hhi]; omega) (fun i hi => by rw [hlo, hhi] at hi; rw [hlo]; exact (hq.2 i hi).symm) (by rw [hlo, hhi]; exact hv), hr⟩
    · rw [if_neg hq]
      have hex : ∃ i, i < st.2.getD n 0 - st.1.getD n 0 ∧ byteAt src (s + i) ≠ byteAt src (st.1.getD n 0 + i) := by
        by_cases h1 : s + (st.2.getD n 0 - st.1.getD n 0) ≤ src.length
        · have h2 : ¬ ∀ j, j < st.2.getD n 0 - st.1.getD n 0 → byteAt src (st.1.getD n 0 + j) = byteAt src (s + j) := fun h => hq ⟨h1, h⟩
          rcases Classical.not_forall.1 h2 with ⟨j, hj⟩
          rcases Classical.not_imp.1 hj with ⟨hj1, hj2⟩
          exact ⟨j, hj1, fun e => hj2 e.symm⟩
        · refine ⟨src.length - s, by omega, ?_⟩
          rw [show s + (src.length - s) = src.length by omega]
          have e1 : byteAt src src.length = -1 := by unfold byteAt; rw [if_neg (by omega)]
          have hlt2 : st.1.getD n 0 + (src.length - s) < src.length := by omega
          have e2 : 0 ≤ byteAt src (st.1.getD n 0 + (src.length - s)) := by
            unfold byteAt
            rw [if_pos hlt2, List.getD_eq_getElem?_getD, List.getElem?_eq_getElem hlt2]
            exact (hby _ (List.getElem_mem _)).1
          omega
      obtain ⟨i, hi, hne⟩ := hex
      exact ⟨0, _, .numNo (k := n) (i := i) (at_code0 hP1 rfl) hlt (by rw [hlo, hhi]; exact hord.2.1) (by rw [hhi]; omega) (by rw [hlo, hhi]; exact hi) (by rw [hlo]; exact hne), rfl, ha, Nat.le_refl _⟩
  | .brc x y :: ts => fun X A hP hY hl s st us d hd hs ho ha => by
    have hP1 : P = A ++ ([.brace x y] ++ (emit (A.length + 1) ts ++ fin tail)) := by rw [hP]; simp [emit, codeOf]
    simp only [dep] at hd
    unfold mt
    by_cases hq : s < src.length ∧ byteAt src s = x
    · rw [if_pos hq]
      cases hb : braceRun src x y (s + 1) 1 with
      | none => exact ⟨0, _, .braceEnd (at_code0 hP1 rfl) hq.1 hq.2 hb, rfl, ha, Nat.le_refl _⟩
      | some s' =>
        have hle := brace_le _ _ _ _ rfl hb
        have hge := brace_ge _ _ _ _ rfl hb
        have ih := vm_law hby hlen ts X (A ++ [.brace x y]) (by rw [hP1]; simp) hY hl s' st us d (by omega) hle (ho.mono (by omega)) ha
        rw [List.length_append] at ih
        obtain ⟨m, r, hv, hr⟩ := ih
        exact ⟨m + 1, r, .braceYes (at_code0 hP1 rfl) hq.1 hq.2 hb hv, hr⟩
    · rw [if_neg hq]
      exact ⟨0, _, .braceNo (at_code0 hP1 rfl) ((Nat.lt_or_ge s src.length).elim (fun h => .inr (fun e => hq ⟨h, e⟩)) .inl), rfl, ha, Nat.le_refl _⟩
end

end Go.Proofs.YtcfhhcjcnafcjaaFmt
