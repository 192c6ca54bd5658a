/-
  The contracts of formattedFrameFuncName and of its door. Their condition: a stack and a state as zzBuild lays them; names within the laws' bounds.
-/
import Derived.Test.YtjbehcabekkjdaaFmtRaw
import Derived.BigGuardPart
namespace Go.Proofs.YtjbehcabekkjdaaFmt
open Go.RowKit Go.Kit
open Go.Extern.Stop Go.Stop Go.Extern
set_option linter.unusedVariables false
set_option linter.unusedSimpArgs false

def preFn : ByteArray := ⟨#[102, 117, 110, 99, 116, 105, 111, 110, 32]⟩
def preFq : ByteArray := ⟨#[102, 117, 110, 99, 116, 105, 111, 110, 32, 39]⟩
def sufQ : ByteArray := ⟨#[39]⟩
/-- A name's first byte. -/
def head0 (s : ByteArray) : Nat := (s.data.toList.headD 0).toNat
/-- The formatted name. -/
def fmtOf (r : ByteArray × Bool) : ByteArray := if r.2 then r.1 else if head0 r.1 = 40 ∨ head0 r.1 = 60 then preFn ++ r.1 else preFq ++ r.1 ++ sufQ
theorem head0_get {s : ByteArray} (h : 0 < s.size) : (s[0]'h).toNat = head0 s := by
  obtain ⟨⟨l⟩⟩ := s
  cases l with
  | nil => exact absurd h (by simp [ByteArray.size])
  | cons x xs => rfl
theorem text3_is (s : ByteArray) : (⟨(text3 s.data.toList).toArray⟩ : ByteArray) = preFq ++ s ++ sufQ := by
  apply ByteArray.ext
  apply Array.ext'
  simp [text3, preFq, sufQ]
theorem text4_is (s : ByteArray) : (⟨(text4 s.data.toList).toArray⟩ : ByteArray) = preFn ++ s := by
  apply ByteArray.ext
  apply Array.ext'
  simp [text4, preFn]
theorem posText_size (src : ByteArray) (ld : Int) (hs : src.size ≤ 1048576) (hw : (Lit.int .i64 ld).wf = true) : 0 < (posText src ld).size ∧ (posText src ld).size ≤ 1099511627776 := by
  have h1 := FmtText.itoa_length_le hw
  show 0 < (text0 src.data.toList ld).toArray.size ∧ (text0 src.data.toList ld).toArray.size ≤ 1099511627776
  have h2 : src.data.toList.length = src.size := by simp
  simp only [text0, List.size_toArray, List.length_append, List.length_singleton, h2]
  omega
theorem missName_size (f : Fr) (src : ByteArray) (ld : Int) (hs : src.size ≤ 1048576) (hw : (Lit.int .i64 ld).wf = true) : 0 < (missName f src ld).size ∧ (missName f src ld).size ≤ 1099511627776 := by
  unfold missName
  split
  · exact posText_size src ld hs hw
  · exact ⟨by decide, by decide⟩
theorem size_pos {s : ByteArray} (h : s.data.toList ≠ []) : 0 < s.size := by
  obtain ⟨⟨l⟩⟩ := s
  cases l with
  | nil => exact absurd rfl h
  | cons x xs => simp [ByteArray.size]
theorem head_ne {s : ByteArray} (h : 0 < s.size) : s.data.toList ≠ [] := by
  intro e
  have : s.data.toList.length = 0 := by rw [e]; rfl
  have h2 : s.data.toList.length = s.size := by simp
  omega
theorem rawOf_two (fs : List Fr) (k : Nat) (src : ByteArray) (ld : Int) (child : Bool) : (rawOf fs k src ld child).2 = decide (k = 0) := by
  unfold rawOf
  by_cases h : k = 0
  · rw [if_pos h, decide_eq_true h]; rfl
  · rw [if_neg h, decide_eq_false h]
    unfold nameAt
    simp only
    split
    · rfl
    · split <;> rfl
theorem rawOf_size {fs : List Fr} {k : Nat} {src : ByteArray} {ld : Int} {child : Bool} (hk : k < fs.length) (hn : Names fs src) (hs : src.size ≤ 1048576) (hw : (Lit.int .i64 ld).wf = true) : 0 < (rawOf fs k src ld child).1.size ∧ (rawOf fs k src ld child).1.size ≤ 1099511627776 := by
  unfold rawOf
  by_cases h : k = 0
  · rw [if_pos h]
    unfold nameAt
    cases child <;> exact ⟨by simp [ByteArray.size], by simp [ByteArray.size]⟩
  · rw [if_neg h]
    unfold nameAt
    simp only
    split
    · exact missName_size _ _ _ hs hw
    · split
      · rename_i c hc
        have hmem := List.mem_of_find?_eq_some hc
        have hcs : 0 < c.1.size ∧ c.1.size ≤ 1099511627776 := by
          obtain ⟨f, hf⟩ : ∃ f, fs[k]! = f := ⟨_, rfl⟩
          have h2 := hn.2.2 k hk
          rw [hf] at hmem h2
          unfold callsOf at hmem
          simp only at hmem
          split at hmem
          · cases hmem
          · rename_i hne
            have h1 := size_pos hne
            split at hmem
            · simp at hmem
              rcases hmem with rfl | rfl | rfl
              · exact ⟨by decide, by decide⟩
              · exact ⟨h1, by show f.name.size ≤ _; omega⟩
              · exact ⟨by decide, by decide⟩
            · simp at hmem
              rcases hmem with rfl | rfl
              · exact ⟨by decide, by decide⟩
              · exact ⟨h1, by show f.name.size ≤ _; omega⟩
        unfold hitName
        simp only
        split
        · exact posText_size _ _ hs hw
        · exact hcs
      · exact missName_size _ _ _ hs hw
set_option maxHeartbeats 1000000 in
theorem fmtN_any (G : Interp) {w : World} {B l c g k : Nat} {fs : List Fr} {src : ByteArray} {ld : Int} {child : Bool} (h : Built w B l c g fs src ld child) (hk : k < fs.length) (hF : G.told.answers w.tape) (hn : Names fs src) (hw : (Lit.int .i64 ld).wf = true) :
    Calls Tryf.prog 33 #[.pointer (some ⟨l, 0, none⟩), .pointer (some ⟨g, k * 10, none⟩)] w (StrPost w (fmtOf (rawOf fs k src ld child))) := by
  have hsz := rawOf_size (child := child) hk hn hn.2.1 hw
  have HC := Lib.hid (name_any G h hk hF hn.2.1 hw)
  have HFF := Lib.hid hF
  clear h hF hw hn
  generalize rawOf fs k src ld child = r at *
  obtain ⟨s, b⟩ := r
  simp only at hsz
  obtain ⟨hs0, hs1⟩ := hsz
  have HT3 := Lib.hid (told3 G s.data.toList (by simp; omega))
  have HT4 := Lib.hid (told4 G s.data.toList (by simp; omega))
  have hg := head0_get hs0
  cases b with
  | true =>
    clear hg
    go_enter Tryf.func33, Tryf.ntmps33
    go_wp2_with fail
    refine HC.out.mono ?_
    rintro e w1 ⟨rfl, hb⟩
    have HB := Lib.hid hb
    clear hb
    go_wp2_with fail
    go_ret
    exact ⟨rfl, HB.out⟩
  | false =>
    by_cases h4 : head0 s = 40
    · have hr : fmtOf (s, false) = preFn ++ s := by unfold fmtOf; rw [if_neg (by simp), if_pos (.inl h4)]
      rw [hr]
      have tb1 : (((s[0]'hs0).toNat : Int) != 40) = false := by rw [hg, h4]; rfl
      clear hg
      go_enter Tryf.func33, Tryf.ntmps33
      go_wp2_with fail
      refine HC.out.mono ?_
      rintro e w1 ⟨rfl, hb⟩
      have HB := Lib.hid hb
      have hFF := HFF.out
      rw [← HB.out.tape] at hFF
      have hF' := answers_open hFF
      clear hb hFF
      go_wp2_with fail
      go_ret
      refine ⟨?_, HB.out.trans (Below.mono (by repeat (first | exact Below.refl _ _ | apply Below.drew | exact below_drewN (Below.alloc (Below.refl _ _) (Nat.le_refl _) _) 1 | exact (Below.refl _ _).alloc (Nat.le_refl _) _)) HB.out.size)⟩
      have := HT4.out
      unfold read4 at this
      rw [this, text4_is]
      rfl
    · by_cases h6 : head0 s = 60
      · have hr : fmtOf (s, false) = preFn ++ s := by unfold fmtOf; rw [if_neg (by simp), if_pos (.inr h6)]
        rw [hr]
        have tb1 : (((s[0]'hs0).toNat : Int) != 40) = true := by rw [hg]; simp; omega
        have tb2 : (((s[0]'hs0).toNat : Int) != 60) = false := by rw [hg, h6]; rfl
        clear hg
        go_enter Tryf.func33, Tryf.ntmps33
        go_wp2_with fail
        refine HC.out.mono ?_
        rintro e w1 ⟨rfl, hb⟩
        have HB := Lib.hid hb
        have hFF := HFF.out
        rw [← HB.out.tape] at hFF
        have hF' := answers_open hFF
        clear hb hFF
        go_wp2_with fail
        go_ret
        refine ⟨?_, HB.out.trans (Below.mono (by repeat (first | exact Below.refl _ _ | apply Below.drew | exact below_drewN (Below.alloc (Below.refl _ _) (Nat.le_refl _) _) 1 | exact (Below.refl _ _).alloc (Nat.le_refl _) _)) HB.out.size)⟩
        have := HT4.out
        unfold read4 at this
        rw [this, text4_is]
        rfl
      · have hr : fmtOf (s, false) = preFq ++ s ++ sufQ := by unfold fmtOf; rw [if_neg (by simp), if_neg (by rintro (h | h) <;> contradiction)]
        rw [hr]
        have tb1 : (((s[0]'hs0).toNat : Int) != 40) = true := by rw [hg]; simp; omega
        have tb2 : (((s[0]'hs0).toNat : Int) != 60) = true := by rw [hg]; simp; omega
        clear hg
        go_enter Tryf.func33, Tryf.ntmps33
        go_wp2_with fail
        refine HC.out.mono ?_
        rintro e w1 ⟨rfl, hb⟩
        have HB := Lib.hid hb
        have hFF := HFF.out
        rw [← HB.out.tape] at hFF
        have hF' := answers_open hFF
        clear hb hFF
        go_wp2_with fail
        go_ret
        refine ⟨?_, HB.out.trans (Below.mono (by repeat (first | exact Below.refl _ _ | apply Below.drew | exact below_drewN (Below.alloc (Below.refl _ _) (Nat.le_refl _) _) 1 | exact (Below.refl _ _).alloc (Nat.le_refl _) _)) HB.out.size)⟩
        have := HT3.out
        unfold read3 at this
        rw [this, text3_is]
        rfl
theorem zzFmt_any (G : Interp) {w : World} {B l c g k : Nat} {fs : List Fr} {src : ByteArray} {ld : Int} {child : Bool} (h : Built w B l c g fs src ld child) (hk : k < fs.length) (hF : G.told.answers w.tape) (hn : Names fs src) (hw : (Lit.int .i64 ld).wf = true) :
    Calls Tryf.prog 18 #[.pointer (some ⟨l, 0, none⟩), .pointer (some ⟨g, k * 10, none⟩)] w (StrPost w (fmtOf (rawOf fs k src ld child))) := by
  have HC := Lib.hid (fmtN_any G h hk hF hn hw)
  clear h hF hw
  generalize fmtOf (rawOf fs k src ld child) = s at *
  go_enter Tryf.func18, Tryf.ntmps18
  go_wp2_with fail
  refine HC.out.mono ?_
  rintro e w1 ⟨rfl, hb⟩
  have HB := Lib.hid hb
  clear hb
  go_wp2_with fail
  go_ret
  exact ⟨rfl, HB.out⟩
end Go.Proofs.YtjbehcabekkjdaaFmt
