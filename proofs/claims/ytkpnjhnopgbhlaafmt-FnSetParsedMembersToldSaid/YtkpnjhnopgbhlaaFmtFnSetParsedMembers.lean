/-
  The given statement on FnSetParsedMembers: for every input the law returns true and leaves its arguments as they were. No condition beyond the statement's own; no text of fmt is come to.
-/
import Derived.Test.YtkpnjhnopgbhlaaFmtHelp33b
import Derived.Laws.IdiomStrings
import Derived.Test.YtkpnjhnopgbhlaaFmtRows
import Derived.Test.YtkpnjhnopgbhlaaFmtCards
import Derived.WalkKit
import Derived.ProofKit
import Derived.OpenShut
import Derived.ShutString
import Derived.ChangeOld
import Derived.Below
import Derived.Stop.JoinedAt
import Derived.Stop.JoinedTold
import Derived.SevenToldRow
namespace Go.Proofs.YtkpnjhnopgbhlaaFmt.fnSetParsedMembers
open Go.ChangeShapes Go.WideShapes Go.ChangeAt Go.RowKit
open Go.ChangeMaps (open_string shut_string)
open Go.Extern.Stop Go.Stop Go.Extern
set_option linter.unusedVariables false
set_option linter.unusedSimpArgs false

theorem own : ownKnob Tryf.prog.godebug = none := by kernel_rfl
theorem laidOut : laidOutB Tryf.prog = true := by kernel_rfl
theorem stops : Tryf.pinned.checked.prog.stops = ["fmt.Sprintf, its operands' methods called"] := by kernel_rfl
theorem stopKnobs : Tryf.pinned.checked.prog.stopKnobs = [] := by kernel_rfl
theorem quiet (os : Os) : Stop.quiet Tryf.pinned.checked.prog os := by
  intro k hk
  rw [stopKnobs] at hk
  cases hk

theorem guard_any (s : ByteArray) (b : Bool) (c : Int) (hs : s.size ≤ 9223372036854775807) (w : World) : Calls Tryf.prog 11 #[.string s, .bool b, .int .i64 c] w fun e w' => e = .returned (.bool (decide (s.size ≤ 1048576))) ∧ w = w' := by
  by_cases h : s.size ≤ 1048576
  all_goals
    go_enter Tryf.func11, Tryf.ntmps11
    go_wp2
    go_ret
    exact ⟨ret_bool (by simp; omega), rfl⟩
theorem bz_get (s : ByteArray) (k : Nat) (h : k < s.size) : (bz s)[k]? = some ((s[k].toNat : Nat) : Int) := by
  have h1 : k < s.data.toList.length := by simpa using h
  simp only [bz, List.getElem?_map, List.getElem?_eq_getElem h1, Option.map_some]
  rfl
theorem take_any (s : ByteArray) (k : Nat) (p : Int → Bool) (h : k < s.size) : ((bz s).take (k + 1)).any p = (((bz s).take k).any p || p ((s[k].toNat : Nat) : Int)) := by
  have hk : k < (bz s).length := by rw [bz_length]; exact h
  have : (bz s)[k] = ((s[k].toNat : Nat) : Int) := by
    have := bz_get s k h; rw [List.getElem?_eq_getElem hk] at this; simpa using this
  rw [List.take_succ_eq_append_getElem hk, List.any_append, this]; simp only [List.any_cons, List.any_nil, Bool.or_false]
theorem any_chr (l : List Int) (ch : Int) : (l.map El.chr).any (fun e => e.has ch) = l.any (fun x => x == ch) := by
  induction l with
  | nil => rfl
  | cons x l ih =>
    rw [List.map_cons, List.any_cons, List.any_cons, ih]
    rfl

set_option maxHeartbeats 4000000
/-! ### THE WALK -/
theorem walk (a0 : ByteArray) (a1 : Bool) (a2 : Int) (w : World) (w0 : a0.size ≤ maxLen) (w2 : (Lit.int .i64 a2).wf = true) :
    Calls Tryf.prog 7 #[.string a0, .bool a1, .int .i64 a2] w fun e w' => e = .returned (.bool true) ∧ Below w.heap.size w w' := by
  unfold maxLen at w0
  rcases (show 1048576 < a0.size ∨ (a0.size ≤ 1048576 ∧ 65536 < a0.size) ∨ a0.size = 0 ∨ (0 < a0.size ∧ a0.size ≤ 65536) by omega) with q | ⟨q, q'⟩ | q | ⟨q0, q⟩
  · have tb : decide (a0.size ≤ 1048576) = false := decide_eq_false (by omega)
    go_enter Tryf.func7, Tryf.ntmps7
    go_wp2_with (go_at_call 11; refine (guard_any _ _ _ (by omega) _).mono ?_; rintro e w' ⟨rfl, rfl⟩)
    go_ret
    exact ⟨rfl, Below.refl _ _⟩
  · have tb : decide (a0.size ≤ 1048576) = true := decide_eq_true q
    go_enter Tryf.func7, Tryf.ntmps7
    go_wp2_with (go_at_call 11; refine (guard_any _ _ _ (by omega) _).mono ?_; rintro e w' ⟨rfl, rfl⟩)
    go_ret
    exact ⟨rfl, Below.refl _ _⟩
  · have tb : decide (a0.size ≤ 1048576) = true := decide_eq_true (by omega)
    go_enter Tryf.func7, Tryf.ntmps7
    go_wp2_with (go_at_call 11; refine (guard_any _ _ _ (by omega) _).mono ?_; rintro e w' ⟨rfl, rfl⟩)
    go_ret
    exact ⟨rfl, Below.refl _ _⟩
  · have tb : decide (a0.size ≤ 1048576) = true := decide_eq_true (by omega)
    have tz : ((a0.size : Int) == 0) = false := beq_eq_false_iff_ne.2 (by omega)
    go_enter Tryf.func7, Tryf.ntmps7
    go_wp2_with (go_at_call 11; refine (guard_any _ _ _ (by omega) _).mono ?_; rintro e w' ⟨rfl, rfl⟩)
    go_loop [7] (fun i => ∃ k : Nat, k ≤ a0.size ∧ i = .int .i64 k ∧ Hid (((bz a0).take k).any (fun x => !alnB x) = false)) (fun i => a0.size - (intOf i).toNat)
    case atStart => exact ⟨0, Nat.zero_le _, rfl, Lib.hid rfl⟩
    case round =>
      obtain ⟨k, hk, rfl, HA⟩ := hrel
      by_cases hlt : k < a0.size
      · have hb : a0[k].toNat < 256 := UInt8.toNat_lt _
        have HT := Lib.hid (take_any a0 k (fun x => !alnB x) hlt)
        cases ha : alnB ((a0[k].toNat : Nat) : Int) with
        | true =>
          have HV := Lib.hid ha
          have HN : Hid (((bz a0).take (k + 1)).any (fun x => !alnB x) = false) := Lib.hid (by rw [HT.out, HA.out, ha]; rfl)
          clear ha
          go_wp2_with (go_at_call 10; refine (alnum_is _ _ (by omega) HV _).mono ?_; rintro e w' ⟨rfl, rfl⟩)
          go_round
          case rel => exact ⟨k + 1, by omega, by go_num, HN⟩
          case measure => simp [intOf]; omega
        | false =>
          have HV := Lib.hid ha
          clear ha
          go_wp2_with (go_at_call 10; refine (alnum_is _ _ (by omega) HV _).mono ?_; rintro e w' ⟨rfl, rfl⟩)
          go_ret
          exact ⟨rfl, Below.refl _ _⟩
      · obtain rfl : k = a0.size := by omega
        have hall : ∀ x, x ∈ bz a0 → alnB x = true := by
          have h := HA.out
          rw [← bz_length, List.take_length, List.any_eq_false] at h
          intro x hx
          have := h x hx
          simpa using this
        have hne : bz a0 ≠ [] := by intro h; have := bz_length a0; rw [h] at this; simp at this; omega
        have HPR := Lib.hid (parse_set (bz a0) hall hne)
        obtain ⟨inb, hin⟩ : ∃ q, (bz a0).any (fun x => x == a2) = q := ⟨_, rfl⟩
        have HIN := Lib.hid hin
        have HRT : Hid (parseCls (bz (⟨#[91, 94]⟩ ++ a0 ++ ⟨#[93]⟩)) 0 = some (.set true ((bz a0).map .chr), 2 + (bz a0).length + 1)) := by
          have := HPR.out true
          unfold Hid
          rw [bz_append, bz_append, List.append_assoc]
          exact this
        have HRF : Hid (parseCls (bz (⟨#[91]⟩ ++ a0 ++ ⟨#[93]⟩)) 0 = some (.set false ((bz a0).map .chr), 1 + (bz a0).length + 1)) := by
          have := HPR.out false
          unfold Hid
          rw [bz_append, bz_append, List.append_assoc]
          exact this
        have HVT : Hid ((Cl.set true ((bz a0).map .chr)).has a2 = !inb) := by
          unfold Hid
          simp only [Cl.has, any_chr, HIN.out]
          cases inb <;> rfl
        have HVF : Hid ((Cl.set false ((bz a0).map .chr)).has a2 = inb) := by
          unfold Hid
          simp only [Cl.has, any_chr, HIN.out]
          cases inb <;> rfl
        clear hall hne hin HPR HA
        cases a1 with
        | true =>
          go_wp2_with fail
          go_loop [9, 10] (fun v i => ∃ (k : Nat) (p : Bool), k ≤ a0.size ∧ i = .int .i64 k ∧ v = .bool p ∧ Hid (((bz a0).take k).any (fun x => x == a2) = p)) (fun _ i => a0.size - (intOf i).toNat)
          case atStart => exact ⟨0, false, Nat.zero_le _, rfl, rfl, Lib.hid rfl⟩
          case round =>
            obtain ⟨k, p, hk, rfl, rfl, HA⟩ := hrel
            by_cases hlt : k < a0.size
            · have hb : a0[k].toNat < 256 := UInt8.toNat_lt _
              have HT := Lib.hid (take_any a0 k (fun x => x == a2) hlt)
              cases ha : (((a0[k].toNat : Nat) : Int) == a2) with
              | true =>
                have HN : Hid (((bz a0).take (k + 1)).any (fun x => x == a2) = true) := Lib.hid (by rw [HT.out, HA.out, ha]; simp)
                go_wp2_with fail
                go_round
                case rel => exact ⟨k + 1, true, by omega, by go_num, rfl, HN⟩
                case measure => simp [intOf]; omega
              | false =>
                have HN : Hid (((bz a0).take (k + 1)).any (fun x => x == a2) = p) := Lib.hid (by rw [HT.out, HA.out, ha]; simp)
                go_wp2_with fail
                go_round
                case rel => exact ⟨k + 1, p, by omega, by go_num, rfl, HN⟩
                case measure => simp [intOf]; omega
            · obtain rfl : k = a0.size := by omega
              have hp : p = inb := by
                have h := HA.out
                rw [← bz_length, List.take_length, HIN.out] at h
                exact h.symm
              subst hp
              cases p
              all_goals
                go_wp2_with fail
                refine (zzParsed_is _ _ _ _ (sz_wrap (by decide) (by decide) (by omega)) HRT HVT).mono ?_
                rintro e w2 ⟨rfl, hb2⟩
                have HB2 := Lib.hid hb2
                clear hb2
                go_wp2_with fail
                go_ret
                exact ⟨rfl, HB2.out⟩
        | false =>
          go_wp2_with fail
          go_loop [9, 10] (fun v i => ∃ (k : Nat) (p : Bool), k ≤ a0.size ∧ i = .int .i64 k ∧ v = .bool p ∧ Hid (((bz a0).take k).any (fun x => x == a2) = p)) (fun _ i => a0.size - (intOf i).toNat)
          case atStart => exact ⟨0, false, Nat.zero_le _, rfl, rfl, Lib.hid rfl⟩
          case round =>
            obtain ⟨k, p, hk, rfl, rfl, HA⟩ := hrel
            by_cases hlt : k < a0.size
            · have hb : a0[k].toNat < 256 := UInt8.toNat_lt _
              have HT := Lib.hid (take_any a0 k (fun x => x == a2) hlt)
              cases ha : (((a0[k].toNat : Nat) : Int) == a2) with
              | true =>
                have HN : Hid (((bz a0).take (k + 1)).any (fun x => x == a2) = true) := Lib.hid (by rw [HT.out, HA.out, ha]; simp)
                go_wp2_with fail
                go_round
                case rel => exact ⟨k + 1, true, by omega, by go_num, rfl, HN⟩
                case measure => simp [intOf]; omega
              | false =>
                have HN : Hid (((bz a0).take (k + 1)).any (fun x => x == a2) = p) := Lib.hid (by rw [HT.out, HA.out, ha]; simp)
                go_wp2_with fail
                go_round
                case rel => exact ⟨k + 1, p, by omega, by go_num, rfl, HN⟩
                case measure => simp [intOf]; omega
            · obtain rfl : k = a0.size := by omega
              have hp : p = inb := by
                have h := HA.out
                rw [← bz_length, List.take_length, HIN.out] at h
                exact h.symm
              subst hp
              cases p
              all_goals
                go_wp2_with fail
                refine (zzParsed_is _ _ _ _ (sz_wrap (by decide) (by decide) (by omega)) HRF HVF).mono ?_
                rintro e w2 ⟨rfl, hb2⟩
                have HB2 := Lib.hid hb2
                clear hb2
                go_wp2_with fail
                go_ret
                exact ⟨rfl, HB2.out⟩

/-! ### THE ROW's STEP -/
set_option maxRecDepth 100000 in
theorem lifted (os : Os) (started : os.Started) (H : Type) (enc : TypeId × Value → H) :
    ReturnsInTold none {} Tryf.checked os 7 .any Input.okWide ((OpenSpec.ofChange Rows.fnSetParsedMembersSpec).preRow enc Tryf.prog Tryf.f7 [] false []) (fun G => ((OpenSpec.ofChange Rows.fnSetParsedMembersSpec).at G).post enc Tryf.prog Tryf.f7 false true false false) (aloneAtReturn Tryf.prog) nothingAlways := by
  refine returnsInTold_of_row (C := Tryf.checked) (s := OpenSpec.ofChange Rows.fnSetParsedMembersSpec) (by kernel_rfl) own started (by kernel_rfl) Tryf.func7
    (OpenSpec.witness_stopped (enc := enc) (C := Tryf.checked) false ⟨#[], #[.string ByteArray.empty, .bool false, .int .i64 0], []⟩ 8 (by kernel_rfl) (by kernel_rfl) (by kernel_rfl) (by kernel_rfl)) ?_
  intro G W base args ds gs before _ hF hval0 hW _ _ _ _ _
  have hval : ∀ (j : Nat) t v, Tryf.f7.params[j]? = some t → args[j]? = some v → Value.okWide Tryf.prog W .any base t v := hval0
  have hW' := hW
  obtain ⟨p, q, hA0, hV, rfl, hfz, hnd⟩ := hW
  have hA : DataW.TrodAll enc Tryf.prog W 0 (fun _ => true) true Tryf.f7.params.toList args.toList ds p := hA0
  rw [Tryf.params7] at hA hval
  obtain ⟨v0, vs0, d0, ds0, p0, q0, hargs, rfl, rfl, h0, r0⟩ := trodAll_cons hA
  obtain ⟨v1, vs1, d1, ds1, p1, q1, rfl, rfl, rfl, h1, r1⟩ := trodAll_cons r0
  obtain ⟨v2, vs2, d2, ds2, p2, q2, rfl, rfl, rfl, h2, r2⟩ := trodAll_cons r1
  obtain ⟨rfl, rfl, rfl⟩ := trodAll_nil r2
  obtain rfl : args = #[v0, v1, v2] := by cases args; simp_all
  obtain ⟨rfl, rfl⟩ := trodVars_none hV
  obtain ⟨a0, rfl, rfl, rfl, w0⟩ := open_string Tryf.underlying9 (hval 0 9 v0 rfl rfl) h0
  obtain ⟨a1, rfl, rfl, rfl⟩ := open_bool Tryf.underlying4 (hval 1 4 v1 rfl rfl) h1
  obtain ⟨a2, rfl, rfl, rfl, w2⟩ := open_int Tryf.underlying3 (hval 2 3 v2 rfl rfl) h2
  clear hA0 hval0
  refine (walk a0 a1 a2 W w0 w2).mono fun e W' ⟨he, bel⟩ => ?_
  subst he
  exact ⟨_, rfl, _, _, _, [], _, [], hW', trodAll_mk1 (shut_bool Tryf.underlying4 _), (trodAll_cons_mk (shut_string Tryf.underlying9 w0) (trodAll_cons_mk (shut_bool Tryf.underlying4 _) (trodAll_cons_mk (shut_int Tryf.underlying3 w2) trodAll_mk0))), rfl, bel.frame _, fun h => by cases h⟩

/-- ████ THE STATEMENT ████ -/
theorem proved : Rows.FnSetParsedMembersToldSaid :=
  Claim7.holds_of_told_any 7 Tryf.f7 "fmt.Sprintf, its operands' methods called" [] [] (true, "dc8c298758da9f0acbc2405bdcae572abe9242dbc14c78529e5d8cfd706ca48c") true false (by kernel_rfl) rfl rfl rfl laidOut (by kernel_rfl) rfl ⟨rfl, rfl, rfl, rfl, rfl, rfl, rfl⟩ rfl rfl (by kernel_rfl) (by kernel_rfl) Tryf.func7 (by kernel_rfl)
    (of_decide_eq_true (by kernel_rfl)) (by unfold Func.isWrapper; first | (rw [if_pos (by decide +kernel)]; kernel_rfl) | (rw [if_neg (by decide +kernel)]; exact ⟨rfl, rfl⟩)) stops.symm rfl stopKnobs.symm (by kernel_rfl)
    (by kernel_rfl) (by kernel_rfl) (by kernel_rfl) (by kernel_rfl) (by kernel_rfl) (by kernel_rfl) (by kernel_rfl) (by kernel_rfl) (by kernel_rfl) rfl (by kernel_rfl) rfl rfl
    rfl rfl
    rfl (by kernel_rfl) (by kernel_rfl) (by kernel_rfl) (by decide) (by kernel_rfl)
    (OpenClaim.moreEntering_of (by kernel_rfl) (by kernel_rfl) (by kernel_rfl) (by kernel_rfl) (by kernel_rfl) (by kernel_rfl) (by kernel_rfl) (by kernel_rfl) (by kernel_rfl) (by kernel_rfl))
    ⟨_, WideRow.started_initial, quiet _⟩
    (fun os started _ H enc _ => lifted os started H enc)
#print axioms proved
end Go.Proofs.YtkpnjhnopgbhlaaFmt.fnSetParsedMembers
