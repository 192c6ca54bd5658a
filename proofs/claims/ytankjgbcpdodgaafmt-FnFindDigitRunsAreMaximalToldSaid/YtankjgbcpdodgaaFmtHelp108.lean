/-
  The contracts of n005_108's helpers: the copy, the tests on bytes, occursAt, the compiling of a pattern, the machine's call. Their conditions: as each states.
-/
import Derived.Test.YtankjgbcpdodgaaFmtLit
import Derived.Test.YtankjgbcpdodgaaFmtBytes
import Derived.Test.YtankjgbcpdodgaaFmtVmTop
namespace Go.Proofs.YtankjgbcpdodgaaFmt
open Go.RowKit
set_option linter.unusedVariables false
set_option linter.unusedSimpArgs false

theorem cpB_info : (Tryf.prog.info? 5).map (fun i => (i.zero, i.size, i.bytes)) = some (some (.int .u8 0), 1, 1) := by kernel_rfl
set_option maxHeartbeats 400000 in
/-- A copy by hand of a slice of integers: the same numbers in new memory; nothing that was there is written. -/
theorem cpB_any (a : Option Addr) (cap : Nat) (zs : List Int) (w : World) (h : RowInt .u8 w a zs) (hnil : a = none → zs.length = 0) (hl : zs.length ≤ 4194304) :
    Calls Tryf.prog 9 #[.slice a zs.length cap] w (Copied .u8 w zs) := by
  have qT : ∀ (w : World) (a : Option Addr) (n c n' c' : Nat), (binOp .eql 22 (.slice a n c) (.slice none n' c')).run Tryf.prog w = .ok (.bool a.isNone) w := fun w a n c n' c' => Lib.run_eql_slice_nil w _ _ a n c n' c' Tryf.underlying22
  cases a with
  | none =>
    have hz : zs = [] := List.length_eq_zero_iff.1 (hnil rfl)
    subst hz
    clear h hnil hl
    go_enter Tryf.func9, Tryf.ntmps9
    go_wp2
    go_ret
    exact ⟨none, 0, rfl, fun _ => rfl, fun _ hx => (by cases hx), fun h0 => absurd h0 (Nat.lt_irrefl _), Below.refl _ _⟩
  | some x =>
    clear hnil
    have hmk := fun W => run_make_row' (P := Tryf.prog) 22 5 (.int .u8 0) 1 Tryf.underlying22 cpB_info rfl .i64 .i64 zs.length (by omega) (by omega) W
    have hcell : ∀ j, j < zs.length → w.cell? (x.add j) = some (.int .u8 (zs.getD j 0)) := fun j hj => by
      obtain ⟨b, off, h1, h2⟩ := h (by omega)
      injection h1 with h1; subst h1; rw [addr_add]; exact h2 j hj
    have HC := Lib.hid hcell
    clear hcell h
    generalize hn : zs.length = n at *
    have HN := Lib.hid hn
    clear hn
    go_enter Tryf.func9, Tryf.ntmps9
    go_wp2
    go_loopw [4] (fun i wr => ∃ k : Nat, k ≤ n ∧ i = .int .i64 k ∧ wr.rowIs w.heap.size 5 n (fun j => if j < k then .int .u8 (zs.getD j 0) else .int .u8 0) ∧ Below w.heap.size w wr)
      (fun i _ => n - (intOf i).toNat)
    case atStart => exact ⟨0, Nat.zero_le _, rfl, (World.rowIs_made w (.int .u8 0) n 5).congr (fun i _ => by simp), (Below.refl _ _).alloc (Nat.le_refl _) _⟩
    case round =>
      obtain ⟨k, hk, rfl, hrow, hbel⟩ := hrel
      by_cases hlt : k < n
      · have hx : wr.cell? (x.add k) = some (.int .u8 (zs.getD k 0)) := by
          have h1 := HC.out k hlt
          exact (hbel.cell (lt_of_cell h1)).trans h1
        have hc0 : ∃ u : Int, wr.cell? ⟨w.heap.size, k, none⟩ = some (.int .u8 u) := ⟨0, by have := hrow.cell hlt; simpa using this⟩
        obtain ⟨u, hc⟩ := hc0
        have hf := hrow.frozen k
        have HR := Lib.hid hrow
        clear hrow
        go_wp2
        go_roundw
        case rel => exact ⟨k + 1, by omega, by go_num, (HR.out.set k _).congr (fun i _ => by split <;> (try split) <;> (try split) <;> first | rfl | (subst_vars; rfl) | omega), hbel.setCell (Nat.le_refl _) _⟩
        case measure => simp [intOf]; omega
      · obtain rfl : k = n := by omega
        have HR := Lib.hid hrow
        clear hrow
        go_wp2
        go_ret
        refine ⟨some ⟨w.heap.size, 0, none⟩, k, by rw [HN.out]; rfl, fun h0 => (by cases h0), fun x hx => ?_, RowInt.of_row HR.out (by rw [HN.out]; exact Nat.le_refl _) (fun i hi => ?_), hbel⟩
        · injection hx with hx; subst hx; exact ⟨Nat.le_refl _, HR.out.lt⟩
        · rw [if_pos (by rw [HN.out] at hi; exact hi)]

set_option maxHeartbeats 1000000 in
theorem plain_any (c : Int) (w : World) : Calls Tryf.prog 23 #[.int .u8 c] w fun e w' => e = .returned (.bool (plainZ c)) ∧ w = w' := by
  rcases (show c = 37 ∨ c = 46 ∨ c = 91 ∨ c = 93 ∨ c = 40 ∨ c = 41 ∨ c = 42 ∨ c = 43 ∨ c = 45 ∨ c = 63 ∨ c = 36 ∨ c = 94 ∨ ((c == 37) = false ∧ (c == 46) = false ∧ (c == 91) = false ∧ (c == 93) = false ∧ (c == 40) = false ∧ (c == 41) = false ∧ (c == 42) = false ∧ (c == 43) = false ∧ (c == 45) = false ∧ (c == 63) = false ∧ (c == 36) = false ∧ (c == 94) = false) by simp only [beq_eq_false_iff_ne]; omega) with rfl | rfl | rfl | rfl | rfl | rfl | rfl | rfl | rfl | rfl | rfl | rfl | ⟨h1, h2, h3, h4, h5, h6, h7, h8, h9, h10, h11, h12⟩
  all_goals
    go_enter Tryf.func23, Tryf.ntmps23
    go_wp2
    go_ret
    exact ⟨ret_bool (by first | rfl | (simp only [beq_eq_false_iff_ne] at *; simp [plainZ]; omega)), rfl⟩
theorem plain_is (c : Int) (v : Bool) (hv : Hid (plainZ c = v)) (w : World) : Calls Tryf.prog 23 #[.int .u8 c] w fun e w' => e = .returned (.bool v) ∧ w = w' := hv.out ▸ plain_any c w
theorem all_take (s : ByteArray) (k : Nat) (p : Int → Bool) (h : k < s.size) : ((bz s).take (k + 1)).all p = (((bz s).take k).all p && p ((s[k].toNat : Nat) : Int)) := by
  have hk : k < (bz s).length := by rw [bz_length]; exact h
  have : (bz s)[k] = ((s[k].toNat : Nat) : Int) := by
    have := bz_get s k h; rw [List.getElem?_eq_getElem hk] at this; simpa using this
  rw [List.take_succ_eq_append_getElem hk, List.all_append, this]; simp only [List.all_cons, List.all_nil, Bool.and_true]
theorem all_no {s : ByteArray} {k : Nat} (h : k < s.size) (hn : plainZ ((s[k].toNat : Nat) : Int) = false) : (bz s).all plainZ = false := by
  rw [List.all_eq_false]
  exact ⟨_, List.mem_of_getElem? (bz_get s k h), by simp [hn]⟩
theorem allPlain_any (s : ByteArray) (w : World) (hs : s.size ≤ 4194304) : Calls Tryf.prog 8 #[.string s] w fun e w' => e = .returned (.bool ((bz s).all plainZ)) ∧ w = w' := by
  go_enter Tryf.func8, Tryf.ntmps8
  go_wp2_with fail
  go_loop [3] (fun i => ∃ k : Nat, k ≤ s.size ∧ i = .int .i64 k ∧ Hid (((bz s).take k).all plainZ = true)) (fun i => s.size - (intOf i).toNat)
  case atStart => exact ⟨0, Nat.zero_le _, rfl, Lib.hid rfl⟩
  case round =>
    obtain ⟨k, hk, rfl, HA⟩ := hrel
    by_cases hlt : k < s.size
    · have hb : s[k].toNat < 256 := UInt8.toNat_lt _
      have HT := Lib.hid (all_take s k plainZ hlt)
      cases ha : plainZ ((s[k].toNat : Nat) : Int) with
      | true =>
        have HV := Lib.hid ha
        have HN : Hid (((bz s).take (k + 1)).all plainZ = true) := Lib.hid (by rw [HT.out, HA.out, ha]; rfl)
        clear ha
        go_wp2_with (go_at_call 23; refine (plain_is _ _ HV _).mono ?_; rintro e w' ⟨rfl, rfl⟩)
        go_round
        case rel => exact ⟨k + 1, by omega, by go_num, HN⟩
        case measure => simp [intOf]; omega
      | false =>
        have HV := Lib.hid ha
        clear ha
        go_wp2_with (go_at_call 23; refine (plain_is _ _ HV _).mono ?_; rintro e w' ⟨rfl, rfl⟩)
        go_ret
        exact ⟨ret_bool (all_no hlt HV.out).symm, rfl⟩
    · obtain rfl : k = s.size := by omega
      go_wp2_with fail
      go_ret
      refine ⟨ret_bool ?_, rfl⟩
      have := HA.out
      rw [← bz_length, List.take_length] at this
      exact this.symm

theorem occ_no_len {src L : List Int} {i : Nat} (hi : i ≤ src.length) (h : ¬ L.length ≤ src.length - i) : occ src L i = false := by
  rw [← Bool.not_eq_true, occ_iff src L i hi]; omega
/-- What occursAt gives: the answer; the memory stands. -/
def OccPost (w : World) (v : Bool) (e : Ending) (w' : World) : Prop := e = .returned (.bool v) ∧ ∃ k, w' = w.drewN k
set_option maxHeartbeats 1000000 in
theorem occurs_any (a : Option Addr) (zs : List Int) (cap i : Nat) (s : ByteArray) (w : World) (hr : RowInt .u8 w a zs) (hi : i ≤ zs.length) (hl : zs.length ≤ 4194304) (hs : s.size ≤ 4194304) (hb : ∀ z, z ∈ zs → 0 ≤ z ∧ z ≤ 255) :
    Calls Tryf.prog 13 #[.slice a zs.length cap, .int .i64 i, .string s] w (OccPost w (occ zs (bz s) i)) := by
  have HR := Lib.hid hr
  have HBY := Lib.hid hb
  clear hr hb
  by_cases hlen : s.size ≤ zs.length - i
  · have HO : Hid (∀ v, (v = true ↔ i + s.size ≤ zs.length ∧ ∀ j z, (bz s)[j]? = some z → byteAt zs (i + j) = z) → occ zs (bz s) i = v) := Lib.hid (fun v hv => by
      have h := occ_iff zs (bz s) i hi
      rw [bz_length] at h
      cases v with
      | true => exact h.2 (hv.1 rfl)
      | false => rw [← Bool.not_eq_true, h]; intro h2; exact Bool.false_ne_true (hv.2 h2))
    go_enter Tryf.func13, Tryf.ntmps13
    go_wp2_with fail
    go_loopg [7] s.size (fun n v wr => ∃ k : Nat, n = s.size - k ∧ k ≤ s.size ∧ v = .int .i64 k ∧ Hid (∀ j z, j < k → (bz s)[j]? = some z → byteAt zs (i + j) = z) ∧ Hid (∃ q, wr = w.drewN q))
    case atStart => exact ⟨0, rfl, Nat.zero_le _, rfl, Lib.hid (fun j z h => by omega), Lib.hid ⟨0, rfl⟩⟩
    case round =>
      obtain ⟨k, rfl, hk, rfl, HA, HQ⟩ := hrel
      by_cases hlt : k < s.size
      · obtain ⟨sb, so, rfl, hc⟩ := HR.out (by omega)
        have hck := hc (i + k) (by omega)
        obtain ⟨z, hz⟩ : ∃ z, zs.getD (i + k) 0 = z := ⟨_, rfl⟩
        rw [hz] at hck
        have hcw : wr.cell? ⟨sb, so + (i + k), none⟩ = some (.int .u8 z) := by obtain ⟨q, rfl⟩ := HQ.out; exact hck
        have hb2 : s[k].toNat < 256 := UInt8.toNat_lt _
        have HBK := Lib.hid (bz_get s k hlt)
        have HZ : Hid (byteAt zs (i + k) = z) := Lib.hid (by rw [byteAt_lt (by omega), hz])
        have h1 : (i : Int) + (k : Int) < (zs.length : Int) := by omega
        have h2 : (0 : Int) ≤ (i : Int) + (k : Int) := by omega
        have h3 : IntKind.i64.wrap ((i : Int) + (k : Int)) = (i : Int) + (k : Int) := by rw [IntWalk.i64_in _ (by omega)]
        have h4 : ((i : Int) + (k : Int)).toNat = i + k := by omega
        have h5 : (k : Int) < (s.size : Int) := by omega
        clear hc hck hz
        by_cases he : z = ((s[k].toNat : Nat) : Int)
        · have HE := Lib.hid he
          have tq : (z != ((s[k].toNat : Nat) : Int)) = false := by simpa using he
          clear he
          go_wp2_with fail
          go_quiet (fail)
          generalize hwd : World.drewN wr _ = wd
          have HQ2 : Hid (∃ q, wd = w.drewN q) := by subst hwd; obtain ⟨q, hq⟩ := HQ.out; rw [hq]; exact Lib.hid ⟨q + nq, by rw [World.drewN_drewN]⟩
          clear hwd h3 h4
          go_wp2_with fail
          go_roundg (s.size - (k + 1))
          case measure => omega
          case rel => exact ⟨k + 1, rfl, by omega, rfl, Lib.hid (fun j y hj hy => by
            rcases Nat.lt_or_ge j k with h | h
            · exact HA.out j y h hy
            · obtain rfl : j = k := by omega
              have := HBK.out
              rw [hy] at this
              injection this with this
              rw [HZ.out, HE.out, this]), HQ2⟩
        · have HE := Lib.hid he
          have tq : (z != ((s[k].toNat : Nat) : Int)) = true := by simpa using he
          clear he
          go_wp2_with fail
          go_quiet (fail)
          generalize hwd : World.drewN wr _ = wd
          have HQ2 : Hid (∃ q, wd = w.drewN q) := by subst hwd; obtain ⟨q, hq⟩ := HQ.out; rw [hq]; exact Lib.hid ⟨q + nq, by rw [World.drewN_drewN]⟩
          clear hwd h3 h4
          go_wp2_with fail
          go_ret
          refine ⟨ret_bool (HO.out false ⟨(fun h => by cases h), fun h => ?_⟩).symm, HQ2.out⟩
          exact absurd ((h.2 k _ HBK.out).symm.trans HZ.out).symm HE.out
      · obtain rfl : k = s.size := by omega
        go_wp2_with fail
        go_ret
        exact ⟨ret_bool (HO.out true ⟨fun _ => ⟨by omega, fun j z hj => HA.out j z (by have := (List.getElem?_eq_some_iff.1 hj).1; rw [bz_length] at this; exact this) hj⟩, fun _ => rfl⟩).symm, HQ.out⟩
  · have HO := Lib.hid (occ_no_len (L := bz s) hi (by rw [bz_length]; exact hlen))
    have h6 : (zs.length : Int) - (i : Int) < (s.size : Int) := by omega
    have h7 : (i : Int) ≤ (zs.length : Int) := by omega
    go_enter Tryf.func13, Tryf.ntmps13
    go_wp2_with fail
    go_ret
    exact ⟨ret_bool HO.out.symm, 0, rfl⟩

theorem progPost_from {w w3 : World} {J : List Ins} {e : Ending} {w' : World} (hb : Below w.heap.size w w3) (h : ProgPost w3 J e w') : ProgPost w J e w' := by
  obtain ⟨m, ao, cap, ys, h1, h2, h3, h4, h5, h6⟩ := h
  exact ⟨m, ao, cap, ys, h1, h2, h3, hb.trans (h4.mono hb.size), fun g hg => Nat.le_trans hb.size (h5 g hg), Nat.le_trans hb.size h6⟩
set_option maxHeartbeats 1000000 in
/-- The program that a pattern's bytes make. -/
theorem comp_any (s : ByteArray) (w : World) (h0 : 0 < s.size) (hs : s.size ≤ 4194304) {must tl : Bool} {l : List Pt} {cf : Nat} {I' : List Ins} {k' : Nat} (hP : PTop (bz s) true 0 must (.ok l tl cf)) (hr : CRun l [.save 0] 2 I' k') (hl : I'.length ≤ 8388608) (hk : k' ≤ 1073741824) :
    Calls Tryf.prog 10 #[.string s] w (ProgPost w (progOf tl I')) := by
  have hcv := Lib.run_convert_string_bytes (P := Tryf.prog) w 9 22 5 s Tryf.underlying9 Tryf.underlying22 Tryf.underlying5
  have HB1 := Lib.hid (bytes_below w 5 s)
  have HC1 := Lib.hid (bytes_cells w 5 s)
  have HP := Lib.hid hP
  have HR := Lib.hid hr
  have HL := Lib.hid (bz_length s)
  clear hP hr
  generalize hw1 : Lib.bytesWorld w 5 s = w1 at *
  generalize hg : grownCap w s.size 0 5 = gc at *
  clear hw1 hg
  go_enter Tryf.func10, Tryf.ntmps10
  go_wp2_with fail
  refine (newScan_any _ _ _ _).mono ?_
  rintro e w2 ⟨rfl, rfl⟩
  have hs2 : Scan (w1.alloc (.cells #[.slice (some ⟨w.heap.size, 0, none⟩) (bz s).length gc, .int .i64 0, .bool false, .int .i64 0, .bool false] 99)) w1.heap.size (some ⟨w.heap.size, 0, none⟩) gc (bz s) 0 0 :=
    Scan.new (fun _ => ⟨_, _, rfl, HC1.out⟩) (by rw [HL.out]; omega) (bz_byte s)
  rw [HL.out] at hs2
  have HS2 := Lib.hid hs2
  have HB2 := Lib.hid (HB1.out.alloc HB1.out.size (.cells #[.slice (some ⟨w.heap.size, 0, none⟩) s.size gc, .int .i64 0, .bool false, .int .i64 0, .bool false] 99))
  clear hs2 hcv
  have hgt : w.heap.size ≤ w1.heap.size := HB1.out.size
  generalize w1.alloc (.cells #[.slice (some ⟨w.heap.size, 0, none⟩) s.size gc, .int .i64 0, .bool false, .int .i64 0, .bool false] 99) = w2 at *
  generalize w1.heap.size = sb at *
  go_wp2_with fail
  refine (parsePat_any HS2.out (by rw [HL.out]; exact h0) (by rw [HL.out]; exact hs) HP.out).mono ?_
  rintro e w3 ⟨q, aq, cap, vs, s', rfl, hq, hpo, hs3, hg3⟩
  have HB3 := Lib.hid (HB2.out.trans (one_below hg3 hgt HB2.out.size))
  have HPO := Lib.hid hpo
  clear hpo hs3 hg3
  go_wp2_with fail
  refine (compTop_any HPO.out.blk (owns_base HPO.out.own (Nat.zero_le _)) (HPO.out.els.kept (fun _ _ _ h => h) (fun _ _ h => h.elim)) HR.out hl hk).mono ?_
  rintro e w4 h4
  have HP4 := Lib.hid (progPost_from HB3.out h4)
  obtain ⟨m, ao, cap4, ys, rfl, h⟩ := h4
  clear h
  go_wp2_with fail
  go_ret
  exact HP4.out
/-- The machine's call through the export. -/
theorem vmc_any {w : World} {sao : Option Addr} {scap : Nat} {zs : List Int} {iao : Option Addr} {icap : Nat} {I : List Ins} {ys : List Value} {n d sp : Nat} {r : Bool × Nat × List Int} (he : VEnv w (fun _ => False) sao zs iao icap I ys) (hs : ∀ x, sao = some x → x.block < w.heap.size)
    (hrun : VRun zs I d n 0 sp [] r) (hsp : sp ≤ zs.length) (hd : d + 1 ≤ 1000000) :
    Calls Tryf.prog 11 #[.slice sao zs.length scap, .slice iao I.length icap, .int .i64 0, .int .i64 sp, .int .i64 0] w (VTopPost w r) := by
  have HV := Lib.hid (vmTop_any (scap := scap) he hs hrun hsp hd)
  clear he hs hrun hd
  go_enter Tryf.func11, Tryf.ntmps11
  go_wp2_with fail
  refine HV.out.mono ?_
  rintro e w1 ⟨m, ao', cap', rfl, h⟩
  have H := Lib.hid h
  clear h
  go_wp2_with fail
  go_ret3
  exact ⟨m, ao', cap', rfl, H.out⟩

end Go.Proofs.YtankjgbcpdodgaaFmt
