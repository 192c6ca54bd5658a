/-
  The contracts of MatchData's methods. Conditions as each statement says.
-/
import Derived.Test.YtankjgbcpdodgaaFmtMatch
import Derived.Deep.LoopGhost
namespace Go.Proofs.YtankjgbcpdodgaaFmt
open Go.RowKit
set_option linter.unusedVariables false
set_option linter.unusedSimpArgs false


set_option maxHeartbeats 1000000 in
set_option maxRecDepth 100000 in
theorem addPos_any {w : World} {m cap s : Nat} {ao : Option Addr} {us : List Int} (p : Int) (h : MD w m ao cap us) (hs : s ≤ 1073741824) :
    Calls Tryf.prog 41 #[.pointer (some ⟨m, 0, none⟩), .int .i64 (s : Int), .int .i64 p] w fun e w' => e = .returned (.tuple #[]) ∧ ∃ ao' cap', MD w' m ao' cap' (((ext us (s + 2)).set s (posW p)).set (s + 1) (posW p)) ∧ Moved w w' m ao ao' := by
  obtain ⟨i0, hi, hz0, hz1, hz2⟩ := info_parts u32_info
  have H := Lib.hid h
  clear h
  go_enter Tryf.func41, Tryf.ntmps41
  go_wp2_with fail
  go_loopg [] (s + 2 - us.length) (fun k wr => ∃ ao' cap' vs, k = s + 2 - vs.length ∧ us.length ≤ vs.length ∧ ext vs (s + 2) = ext us (s + 2) ∧ MD wr m ao' cap' vs ∧ Moved w wr m ao ao')
  case atStart => exact ⟨ao, cap, us, rfl, Nat.le_refl _, rfl, H.out, Moved.refl _ _ _⟩
  case round =>
    obtain ⟨ao', cap', vs, rfl, hle, hext, hmd, hmv⟩ := hrel
    have HM := Lib.hid hmd
    have HV := Lib.hid hmv
    have HX := Lib.hid hext
    have hlen := hmd.len
    have g0 : wr.cell? ⟨m, 0, none⟩ = some (.slice ao' vs.length cap') := blk_cell hmd.blk 0 _ rfl
    have HW := Lib.hid (hmd.own.alloc (.cells #[.int .u32 0] 55))
    clear hmd hmv hext
    by_cases hlt : vs.length < s + 2
    · go_wp2_with (at_builtin; refine wpList_push _ rfl (.tmp 18) (.tmp 19) 52 rfl 0 55 i0 (.int .u32 0) 1 4 Tryf.underlying52 hi hz0 hz1 hz2 rfl (by decide) _ _ _ _ rfl HW.out ⟨wr.heap.size, 0, none⟩ 1 1 [.int .u32 0] rfl rfl (cell_one_new _ _ _) (fun u hu => by simp at hu; subst hu; rfl) (by decide) (by unfold maxLen; omega) (by omega) (Nat.zero_le _) ?_; intro g1 c1 w1 hown' hgrow hwhere; have hmid := HM.out.mid hgrow; have k0 := blk_cell hmid 0 _ rfl; have k1 := blk_free hmid 0; have HO := Lib.hid hown'; have HG := Lib.hid hgrow; have HWh := Lib.hid hwhere; clear hown' hgrow hwhere hmid)
      have HR := HM.out.grow (by omega) HO.out HG.out (by rcases HWh.out with h | h; exact .inl h; exact .inr (by simp at h; omega))
      go_roundg (s + 2 - (vs ++ [(0 : Int)]).length)
      case measure => simp; omega
      case rel => exact ⟨_, _, vs ++ [0], rfl, by simp; omega, (ext_snoc hlt).trans HX.out, HR.1, HV.out.trans HR.2⟩
    · obtain ⟨g, rfl, hne, hglt⟩ := HM.out.row (by omega)
      have hc1 := HM.out.cell s (by omega)
      have hc2 := HM.out.cell (s + 1) (by omega)
      have hf1 := HM.out.free s
      have hf2 := HM.out.free (s + 1)
      have hs1 : (s : Int) < vs.length := by omega
      have hs2 : (s : Int) + 1 < vs.length := by omega
      clear HW
      obtain ⟨u1, hu1⟩ : ∃ u, u = vs.getD s 0 := ⟨_, rfl⟩
      obtain ⟨u2, hu2⟩ : ∃ u, u = vs.getD (s + 1) 0 := ⟨_, rfl⟩
      rw [← hu1] at hc1
      rw [← hu2] at hc2
      have hw := posW_eq p
      have HP := Lib.hid hw
      clear hu1 hu2 hw
      go_wp2
      rw [HP.out]
      go_end0
      have hvs : vs = ext us (s + 2) := by rw [← HX.out, ext_same (by omega)]
      have S1 := HM.out.store s (posW p) (by omega) (posW_bd p)
      have S2 := S1.1.store (s + 1) (posW p) (by rw [List.length_set]; omega) (posW_bd p)
      rw [← hvs]
      exact ⟨rfl, _, _, S2.1, HV.out.trans (S1.2.trans S2.2)⟩



set_option maxHeartbeats 1000000 in
set_option maxRecDepth 100000 in
theorem setCap_any {w : World} {m cap s : Nat} {ao : Option Addr} {us : List Int} (p : Int) (h : MD w m ao cap us) (hs : s ≤ 1073741824) :
    Calls Tryf.prog 39 #[.pointer (some ⟨m, 0, none⟩), .int .i64 (s : Int), .int .i64 p] w fun e w' => e = .returned (.int .u32 ((ext us (s + 1)).getD s 0)) ∧ ∃ ao' cap', MD w' m ao' cap' ((ext us (s + 1)).set s (capW p)) ∧ Moved w w' m ao ao' := by
  obtain ⟨i0, hi, hz0, hz1, hz2⟩ := info_parts u32_info
  have H := Lib.hid h
  clear h
  go_enter Tryf.func39, Tryf.ntmps39
  go_wp2_with fail
  go_loopg [] (s + 1 - us.length) (fun k wr => ∃ ao' cap' vs, k = s + 1 - vs.length ∧ us.length ≤ vs.length ∧ ext vs (s + 1) = ext us (s + 1) ∧ MD wr m ao' cap' vs ∧ Moved w wr m ao ao')
  case atStart => exact ⟨ao, cap, us, rfl, Nat.le_refl _, rfl, H.out, Moved.refl _ _ _⟩
  case round =>
    obtain ⟨ao', cap', vs, rfl, hle, hext, hmd, hmv⟩ := hrel
    have HM := Lib.hid hmd
    have HV := Lib.hid hmv
    have HX := Lib.hid hext
    have hlen := hmd.len
    have g0 : wr.cell? ⟨m, 0, none⟩ = some (.slice ao' vs.length cap') := blk_cell hmd.blk 0 _ rfl
    have HW := Lib.hid (hmd.own.alloc (.cells #[.int .u32 0] 55))
    clear hmd hmv hext
    by_cases hlt : vs.length < s + 1
    · go_wp2_with (at_builtin; refine wpList_push _ rfl (.tmp 19) (.tmp 20) 52 rfl 0 55 i0 (.int .u32 0) 1 4 Tryf.underlying52 hi hz0 hz1 hz2 rfl (by decide) _ _ _ _ rfl HW.out ⟨wr.heap.size, 0, none⟩ 1 1 [.int .u32 0] rfl rfl (cell_one_new _ _ _) (fun u hu => by simp at hu; subst hu; rfl) (by decide) (by unfold maxLen; omega) (by omega) (Nat.zero_le _) ?_; intro g1 c1 w1 hown' hgrow hwhere; have hmid := HM.out.mid hgrow; have k0 := blk_cell hmid 0 _ rfl; have k1 := blk_free hmid 0; have HO := Lib.hid hown'; have HG := Lib.hid hgrow; have HWh := Lib.hid hwhere; clear hown' hgrow hwhere hmid)
      have HR := HM.out.grow (by omega) HO.out HG.out (by rcases HWh.out with h | h; exact .inl h; exact .inr (by simp at h; omega))
      go_roundg (s + 1 - (vs ++ [(0 : Int)]).length)
      case measure => simp; omega
      case rel => exact ⟨_, _, vs ++ [0], rfl, by simp; omega, (ext_snoc hlt).trans HX.out, HR.1, HV.out.trans HR.2⟩
    · obtain ⟨g, rfl, hne, hglt⟩ := HM.out.row (by omega)
      have hc1 := HM.out.cell s (by omega)
      have hf1 := HM.out.free s
      have hs1 : (s : Int) < vs.length := by omega
      clear HW
      obtain ⟨u1, hu1⟩ : ∃ u, u = vs.getD s 0 := ⟨_, rfl⟩
      rw [← hu1] at hc1
      have HU := Lib.hid hu1
      have HP : Hid (p % 4294967296 * 2 % 4294967296 = capW p) := rfl
      clear hu1
      go_wp2
      rw [HP.out]
      go_ret
      have hvs : vs = ext us (s + 1) := by rw [← HX.out, ext_same (by omega)]
      have S1 := HM.out.store s (capW p) (by omega) (capW_bd p)
      rw [← hvs]
      exact ⟨ret_int HU.out, _, _, S1.1, HV.out.trans S1.2⟩



theorem capLen_any {w : World} {m cap : Nat} {ao : Option Addr} {us : List Int} (h : MD w m ao cap us) :
    Calls Tryf.prog 12 #[.pointer (some ⟨m, 0, none⟩)] w fun e w' => e = .returned (.int .i64 (us.length : Int)) ∧ w = w' := by
  have g0 : w.cell? ⟨m, 0, none⟩ = some (.slice ao us.length cap) := blk_cell h.blk 0 _ rfl
  clear h
  go_enter Tryf.func12, Tryf.ntmps12
  go_wp2
  go_ret
  exact ⟨rfl, rfl⟩



theorem and_one (u : Int) (h0 : 0 ≤ u) (h1 : u < 4294967296) : bits .and .u32 u 1 = u % 2 := by
  have e1 : (BitVec.ofInt 32 u).toNat = u.toNat := by
    have : u = ((u.toNat : Nat) : Int) := by omega
    rw [this, BitVec.ofInt_natCast, BitVec.toNat_ofNat]
    rw [Int.toNat_natCast]; exact Nat.mod_eq_of_lt (by omega)
  have e2 : (BitVec.ofInt 32 (1 : Int)).toNat = 1 := rfl
  show IntKind.u32.wrap ((BitVec.ofInt 32 u &&& BitVec.ofInt 32 (1 : Int)).toNat : Int) = _
  rw [BitVec.toNat_and, e1, e2, Nat.and_one_is_mod, IntKind.wrap_u32]
  omega

theorem isPos_any {w : World} {m cap : Nat} {ao : Option Addr} {us : List Int} (i : Nat) (h : MD w m ao cap us) (hi : i < us.length) :
    Calls Tryf.prog 15 #[.pointer (some ⟨m, 0, none⟩), .int .i64 (i : Int)] w fun e w' => e = .returned (.bool (us.getD i 0 % 2 == 1)) ∧ w = w' := by
  obtain ⟨g, rfl, hne, hlt⟩ := h.row (by omega)
  have g0 : w.cell? ⟨m, 0, none⟩ = some (.slice (some ⟨g, 0, none⟩) us.length cap) := blk_cell h.blk 0 _ rfl
  have hc := h.cell i hi
  have hb := h.word i
  have hlen := h.len
  obtain ⟨u, hu⟩ : ∃ u, u = us.getD i 0 := ⟨_, rfl⟩
  rw [← hu] at hc hb
  rw [← hu]
  have hb1 := hb.1
  have hb2 := hb.2
  have hbits := and_one u hb1 hb2
  clear h hb hu
  go_enter Tryf.func15, Tryf.ntmps15
  go_wp2
  go_ret
  exact ⟨rfl, rfl⟩

theorem cap_any {w : World} {m cap : Nat} {ao : Option Addr} {us : List Int} (i : Nat) (h : MD w m ao cap us) (hi : i < us.length) :
    Calls Tryf.prog 14 #[.pointer (some ⟨m, 0, none⟩), .int .i64 (i : Int)] w fun e w' => e = .returned (.int .i64 (us.getD i 0 / 2)) ∧ w = w' := by
  obtain ⟨g, rfl, hne, hlt⟩ := h.row (by omega)
  have g0 : w.cell? ⟨m, 0, none⟩ = some (.slice (some ⟨g, 0, none⟩) us.length cap) := blk_cell h.blk 0 _ rfl
  have hc := h.cell i hi
  have hb := h.word i
  have hlen := h.len
  obtain ⟨u, hu⟩ : ∃ u, u = us.getD i 0 := ⟨_, rfl⟩
  rw [← hu] at hc hb
  rw [← hu]
  have hb1 := hb.1
  have hb2 := hb.2
  clear h hb hu
  go_enter Tryf.func14, Tryf.ntmps14
  go_wp2
  go_ret
  exact ⟨rfl, rfl⟩

theorem isPos_is {w : World} {m cap : Nat} {ao : Option Addr} {us : List Int} (i : Nat) (b : Bool) (h : MD w m ao cap us) (hi : i < us.length) (hb : Hid ((us.getD i 0 % 2 == 1) = b)) :
    Calls Tryf.prog 15 #[.pointer (some ⟨m, 0, none⟩), .int .i64 (i : Int)] w fun e w' => e = .returned (.bool b) ∧ w = w' := hb.out ▸ isPos_any i h hi
theorem cap_is {w : World} {m cap : Nat} {ao : Option Addr} {us : List Int} (i : Nat) (v : Int) (h : MD w m ao cap us) (hi : i < us.length) (hv : Hid (us.getD i 0 / 2 = v)) :
    Calls Tryf.prog 14 #[.pointer (some ⟨m, 0, none⟩), .int .i64 (i : Int)] w fun e w' => e = .returned (.int .i64 v) ∧ w = w' := hv.out ▸ cap_any i h hi
theorem posW_flag (p : Int) : (posW p % 2 == 1) = true := by rw [beq_iff_eq]; unfold posW capW; omega
theorem posW_val (p : Int) : posW p / 2 = p % 2147483648 := by unfold posW capW; omega
theorem capW_flag (p : Int) : (capW p % 2 == 1) = false := by rw [beq_eq_false_iff_ne]; unfold capW; omega
theorem capW_val (p : Int) : capW p / 2 = p % 2147483648 := by unfold capW; omega
theorem getD_set_same {l : List Int} {i : Nat} {v : Int} (h : i < l.length) : (l.set i v).getD i 0 = v := by
  rw [List.getD_eq_getElem?_getD, List.getElem?_set_self h]; rfl
theorem getD_set_ne {l : List Int} {i j : Nat} {v : Int} (h : i ≠ j) : (l.set i v).getD j 0 = l.getD j 0 := by
  rw [List.getD_eq_getElem?_getD, List.getD_eq_getElem?_getD, List.getElem?_set_ne h]
theorem getD_ext (l : List Int) (n j : Nat) : (ext l n).getD j 0 = l.getD j 0 := by
  unfold ext
  rcases Nat.lt_or_ge j l.length with h | h
  · rw [List.getD_eq_getElem?_getD, List.getElem?_append_left h, ← List.getD_eq_getElem?_getD]
  · rw [List.getD_eq_getElem?_getD, List.getElem?_append_right h, List.getD_eq_getElem?_getD, List.getElem?_eq_none h, List.getElem?_replicate]
    split <;> rfl



theorem newMatch_any (w : World) : Calls Tryf.prog 38 #[] w fun e w' => e = .returned (.pointer (some ⟨w.heap.size + 1, 0, none⟩)) ∧ MD w' (w.heap.size + 1) (some ⟨w.heap.size, 0, none⟩) 0 [] ∧ Below w.heap.size w w' ∧ w'.heap.size = w.heap.size + 2 := by
  go_enter Tryf.func38, Tryf.ntmps38
  go_wp2
  go_ret
  have hsz : (w.alloc (Obj.cells #[] 55)).heap.size = w.heap.size + 1 := by simp
  refine ⟨rfl, ⟨?_, ?_, fun u hu => absurd hu (by simp), by simp⟩, ((Below.refl _ _).alloc (Nat.le_refl _) _).alloc (by simp) _, by simp⟩
  · have := blk_new (w.alloc (Obj.cells #[] 55)) (Obj.cells #[Value.slice (some { block := w.heap.size, off := 0 }) 0 0] 54)
    rw [hsz] at this
    exact this
  · exact (World.ownsRow_lit (e := 55) (size := 1) w #[] 0 (Nat.zero_le _) (Nat.zero_le _) rfl).alloc _



theorem restCap_any {w : World} {m cap : Nat} {ao : Option Addr} {us : List Int} (i : Nat) (u : Int) (h : MD w m ao cap us) (hi : i < us.length) (hu : 0 ≤ u ∧ u < 4294967296) :
    Calls Tryf.prog 40 #[.pointer (some ⟨m, 0, none⟩), .int .i64 (i : Int), .int .u32 u] w fun e w' => e = .returned (.tuple #[]) ∧ MD w' m ao cap (us.set i u) ∧ Moved w w' m ao ao := by
  obtain ⟨g, rfl, hne, hlt⟩ := h.row (by omega)
  have g0 : w.cell? ⟨m, 0, none⟩ = some (.slice (some ⟨g, 0, none⟩) us.length cap) := blk_cell h.blk 0 _ rfl
  have hc := h.cell i hi
  have hf := h.free i
  have hlen := h.len
  obtain ⟨u1, hu1⟩ : ∃ u, u = us.getD i 0 := ⟨_, rfl⟩
  rw [← hu1] at hc
  have HS := Lib.hid (h.store i u hi hu)
  clear h hu1
  go_enter Tryf.func40, Tryf.ntmps40
  go_wp2
  go_end0
  exact ⟨rfl, HS.out.1, HS.out.2⟩


end Go.Proofs.YtankjgbcpdodgaaFmt
