/-
  The contracts of keptCount and literalStarts. Their conditions: as each states.
-/
import Derived.Test.YtankjgbcpdodgaaFmtFindLaw
namespace Go.Proofs.YtankjgbcpdodgaaFmt
open Go.RowKit
set_option linter.unusedVariables false
set_option linter.unusedSimpArgs false

theorem kept_any (n : Nat) (first : Bool) (limit : Int) (w : World) (hn : n ≤ 4611686018427387904) : Calls Tryf.prog 19 #[.int .i64 n, .bool first, .int .i64 limit] w fun e w' => e = .returned (.int .i64 (kept n first limit : Nat)) ∧ w = w' := by
  unfold kept
  rcases (show (0 < limit ∧ limit < n) ∨ (limit = 0) ∨ (limit < 0) ∨ (0 < limit ∧ ¬ limit < n) by omega) with ⟨h, h'⟩ | h | h | ⟨h, h'⟩
  · rw [if_pos ⟨h, h'⟩]
    go_enter Tryf.func19, Tryf.ntmps19
    go_wp2_with fail
    go_ret
    exact ⟨by rw [Int.toNat_of_nonneg (by omega)]; rfl, rfl⟩
  · subst h
    rw [if_neg (by omega)]
    cases first
    all_goals
      go_enter Tryf.func19, Tryf.ntmps19
      go_wp2_with fail
      go_ret
      exact ⟨rfl, rfl⟩
  · rw [if_neg (by omega), if_neg (by omega)]
    go_enter Tryf.func19, Tryf.ntmps19
    go_wp2_with fail
    go_ret
    exact ⟨rfl, rfl⟩
  · rw [if_neg (by omega), if_neg (by omega)]
    go_enter Tryf.func19, Tryf.ntmps19
    go_wp2_with fail
    go_ret
    exact ⟨rfl, rfl⟩

theorem int_info : (Tryf.prog.info? 3).map (fun i => (i.zero, i.size, i.bytes)) = some (some (.int .i64 0), 1, 8) := by kernel_rfl
def natVals (l : List Nat) : List Value := l.map fun (j : Nat) => .int .i64 (j : Int)
theorem starts_end {src L : List Int} {i : Nat} (h : src.length < i) : litStarts src L i = [] := by unfold litStarts; rw [if_pos h]
theorem starts_yes {src L : List Int} {i : Nat} (h : i ≤ src.length) (ho : occ src L i = true) : litStarts src L i = i :: litStarts src L (if 0 < L.length then i + L.length else i + 1) := by
  conv => lhs; unfold litStarts
  rw [if_neg (by omega), if_pos ho]
theorem starts_no {src L : List Int} {i : Nat} (h : i ≤ src.length) (ho : occ src L i = false) : litStarts src L i = litStarts src L (i + 1) := by
  conv => lhs; unfold litStarts
  rw [if_neg (by omega), if_neg (by rw [ho]; decide)]
theorem vals_push (l : List Nat) (i : Nat) : natVals l ++ [.int .i64 (i : Int)] = natVals (l ++ [i]) := by simp [natVals]
theorem owns_drewN {w : World} {B : Nat} {T : TypeId} {sz : Nat} {v : Value} {n : Nat} {xs : List Value} (h : w.ownsRow B T sz v n xs) (k : Nat) : (w.drewN k).ownsRow B T sz v n xs := h
/-- What holds at the scan's head. -/
def SRel (w : World) (src L : List Int) (R : List Nat) (v3 v4 : Value) (wr : World) : Prop :=
  ∃ (i : Nat) (ls : List Nat) (g cap : Nat), v3 = .slice (some ⟨g, 0, none⟩) ls.length cap ∧ v4 = .int .i64 i ∧ wr.ownsRow w.heap.size 3 1 (.slice (some ⟨g, 0, none⟩) ls.length cap) ls.length (natVals ls) ∧ Below w.heap.size w wr ∧ ls ++ litStarts src L i = R ∧ ls.length ≤ i ∧ i ≤ 9223372036854775807
def StartsPost (w : World) (R : List Nat) (e : Ending) (w' : World) : Prop :=
  ∃ g cap, e = .returned (.slice (some ⟨g, 0, none⟩) R.length cap) ∧ w'.ownsRow w.heap.size 3 1 (.slice (some ⟨g, 0, none⟩) R.length cap) R.length (natVals R) ∧ Below w.heap.size w w'
set_option maxHeartbeats 1000000 in
theorem starts_any (s : ByteArray) (a : Option Addr) (zs : List Int) (cap off : Nat) (w : World) (hr : RowInt .u8 w a zs) (ha : ∀ x, a = some x → x.block < w.heap.size) (hl : zs.length ≤ 65536) (hs : s.size ≤ 4096) (hb : ∀ z, z ∈ zs → 0 ≤ z ∧ z ≤ 255) (hoff : off ≤ 9223372036854775807) :
    Calls Tryf.prog 18 #[.string s, .slice a zs.length cap, .int .i64 off] w (StartsPost w (litStarts zs (bz s) off)) := by
  have HR := Lib.hid hr
  have HA := Lib.hid ha
  have HBY := Lib.hid hb
  clear hr ha hb
  go_enter Tryf.func18, Tryf.ntmps18
  go_wp2_with fail
  obtain ⟨i0, hi, hz0, hz1, hz2⟩ := info_parts int_info
  go_loopw [7, 8] (fun v3 v4 wr => SRel w zs (bz s) (litStarts zs (bz s) off) v3 v4 wr) (fun _ v4 _ => zs.length + 1 - (intOf v4).toNat)
  case atStart => exact ⟨off, [], w.heap.size, 0, rfl, rfl, World.ownsRow_lit (e := 3) (size := 1) w #[] 0 (Nat.le_refl _) (Nat.zero_le _) rfl, (Below.refl _ _).alloc (Nat.le_refl _) _, rfl, Nat.zero_le _, hoff⟩
  case round =>
    obtain ⟨i, ls, g, cap', rfl, rfl, ho, hb, he, hls, hib⟩ := hrel
    have hgw := (owns_lt ho g rfl).1
    have hgl := (owns_lt ho g rfl).2
    have hlen1 : (ls ++ [i]).length = ls.length + 1 := by simp
    by_cases hlt : i ≤ zs.length
    · have HV := Lib.hid (occurs_any a zs cap i s wr (HR.out.below hb (Nat.le_refl _)) hlt (by omega) (by omega) HBY.out)
      have HO := Lib.hid ho
      have HB := Lib.hid hb
      have HE := Lib.hid he
      clear ho hb he
      cases hoc : occ zs (bz s) i with
      | true =>
        have HS := Lib.hid (starts_yes hlt hoc)
        rw [hoc] at HV
        clear hoc
        have hbl := bz_length s
        rcases Nat.eq_zero_or_pos s.size with hz | hz
        · have tz : ¬ (0 : Int) < (s.size : Int) := by omega
          have hx : (if 0 < (bz s).length then i + (bz s).length else i + 1) = i + 1 := if_neg (by omega)
          go_wp2_with fail
          refine HV.out.mono ?_
          rintro e w1 ⟨rfl, kd, rfl⟩
          have HO := Lib.hid (owns_drewN HO.out kd)
          have HB := Lib.hid (below_drewN HB.out kd)
          generalize wr.drewN kd = wd at *
          have hbs := HB.out.size
          have hgl2 := (owns_lt HO.out g rfl).2
          go_wp2_with (at_builtin; refine wpList_push _ rfl (.tmp 19) (.tmp 21) 36 rfl w.heap.size 3 i0 (.int .i64 0) 1 8 Tryf.underlying36 hi hz0 hz1 hz2 rfl (by decide) _ _ _ _ rfl (HO.out.alloc _) ⟨wd.heap.size, 0, none⟩ 1 1 [.int .i64 (i : Int)] rfl rfl (news_at2 (by simp)) (fun u hu => by simp at hu; subst hu; rfl) (by decide) (by unfold maxLen; omega) (by omega) (by simp; omega) ?_; intro g1 c1 w8 hown hgrow hwhere; have HO' := Lib.hid hown; have HGw := Lib.hid hgrow; clear hown hgrow hwhere)
          go_roundw
          case rel => exact ⟨i + 1, ls ++ [i], g1, c1, by rw [hlen1], by go_num, by rw [hlen1, ← vals_push]; exact HO'.out, HB.out.trans (((Below.refl _ _).alloc hbs _).trans (one_below HGw.out hgw (by simp; omega))), by rw [List.append_assoc, List.singleton_append, ← hx, ← HS.out]; exact HE.out, by rw [hlen1]; omega, by omega⟩
          case measure => simp [intOf]; omega
        · have tz : (0 : Int) < (s.size : Int) := by omega
          have hx : (if 0 < (bz s).length then i + (bz s).length else i + 1) = i + s.size := by rw [if_pos (by omega), hbl]
          go_wp2_with fail
          refine HV.out.mono ?_
          rintro e w1 ⟨rfl, kd, rfl⟩
          have HO := Lib.hid (owns_drewN HO.out kd)
          have HB := Lib.hid (below_drewN HB.out kd)
          generalize wr.drewN kd = wd at *
          have hbs := HB.out.size
          have hgl2 := (owns_lt HO.out g rfl).2
          go_wp2_with (at_builtin; refine wpList_push _ rfl (.tmp 19) (.tmp 21) 36 rfl w.heap.size 3 i0 (.int .i64 0) 1 8 Tryf.underlying36 hi hz0 hz1 hz2 rfl (by decide) _ _ _ _ rfl (HO.out.alloc _) ⟨wd.heap.size, 0, none⟩ 1 1 [.int .i64 (i : Int)] rfl rfl (news_at2 (by simp)) (fun u hu => by simp at hu; subst hu; rfl) (by decide) (by unfold maxLen; omega) (by omega) (by simp; omega) ?_; intro g1 c1 w8 hown hgrow hwhere; have HO' := Lib.hid hown; have HGw := Lib.hid hgrow; clear hown hgrow hwhere)
          go_roundw
          case rel => exact ⟨i + s.size, ls ++ [i], g1, c1, by rw [hlen1], by go_num, by rw [hlen1, ← vals_push]; exact HO'.out, HB.out.trans (((Below.refl _ _).alloc hbs _).trans (one_below HGw.out hgw (by simp; omega))), by rw [List.append_assoc, List.singleton_append, ← hx, ← HS.out]; exact HE.out, by rw [hlen1]; omega, by omega⟩
          case measure => simp [intOf]; omega
      | false =>
        have HS := Lib.hid (starts_no hlt hoc)
        rw [hoc] at HV
        clear hoc
        go_wp2_with fail
        refine HV.out.mono ?_
        rintro e w1 ⟨rfl, kd, rfl⟩
        have HO := Lib.hid (owns_drewN HO.out kd)
        have HB := Lib.hid (below_drewN HB.out kd)
        generalize wr.drewN kd = wd at *
        go_wp2_with fail
        go_roundw
        case rel => exact ⟨i + 1, ls, g, cap', rfl, by go_num, HO.out, HB.out, by rw [← HS.out]; exact HE.out, by omega, by omega⟩
        case measure => simp [intOf]; omega
    · have hR : ls = litStarts zs (bz s) off := by rw [← he, starts_end (by omega), List.append_nil]
      have HO := Lib.hid ho
      have HB := Lib.hid hb
      clear ho hb he
      go_wp2_with fail
      go_ret
      rw [← hR]
      exact ⟨g, cap', rfl, HO.out, HB.out⟩

end Go.Proofs.YtankjgbcpdodgaaFmt
