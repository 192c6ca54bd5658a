/-
  What the law on the trace's shape asks of the text, told of the plain list of lines; the contract of the trace's door. Conditions as each states.
-/
import Derived.Test.YtjbehcabekkjdaaFmtTraceW
namespace Go.Proofs.YtjbehcabekkjdaaFmt
open Go.RowKit Go.Kit
open Go.Extern.Stop Go.Stop Go.Extern
set_option linter.unusedVariables false
set_option linter.unusedSimpArgs false

def headB : ByteArray := ⟨#[115, 116, 97, 99, 107, 32, 116, 114, 97, 99, 101, 98, 97, 99, 107, 58, 10]⟩
theorem trace_low (fs : List Fr) (src : ByteArray) (ld : Int) (child : Bool) {level : Int} (h : level ≤ 0) : traceT fs src ld child level = traceT fs src ld child 0 := by
  unfold traceT shownL
  have h1 : ∀ T, clampD level T = clampD 0 T := fun T => by unfold clampD; rw [if_pos h, if_pos (Int.le_refl 0)]
  rw [h1]
theorem bytes_pre (a b : List UInt8) : (⟨(a ++ b).toArray⟩ : ByteArray).extract 0 a.length = ⟨a.toArray⟩ := by
  apply ByteArray.ext
  rw [ByteArray.data_extract]
  apply Array.ext'
  simp
theorem bytes_suf (a b : List UInt8) : (⟨(a ++ b).toArray⟩ : ByteArray).extract a.length (⟨(a ++ b).toArray⟩ : ByteArray).size = ⟨b.toArray⟩ := by
  apply ByteArray.ext
  rw [ByteArray.data_extract]
  apply Array.ext'
  have hs : (⟨(a ++ b).toArray⟩ : ByteArray).size = a.length + b.length := by show (a ++ b).toArray.size = _; simp
  rw [hs]
  simp
/-- The shape of a trace's text. -/
def Shape (s : ByteArray) (W : Nat) : Prop := ∃ body : ByteArray, s.size ≤ 1125899906842624 ∧ s.size = body.size + 17 ∧ s.extract 0 17 = headB ∧ s.extract 17 s.size = body ∧ (W = 0 → body = ⟨#[]⟩) ∧ (0 < W → 7 ≤ body.size ∧ body.data.toList.count 10 + 1 = W ∧ body.extract (body.size - 7) body.size = gLine)
theorem shape_of {fs : List Fr} {src : ByteArray} {ld level : Int} {child : Bool} (ht : ∀ i, i < fs.length → 0 ≤ tailF fs[i]! ∧ tailF fs[i]! ≤ 65536) (hs : NoNL src.data.toList) (hn : ∀ i, i < fs.length → NoNL fs[i]!.name.data.toList) {T : Nat} (hT : (T : Int) = 1 + fs.length + sumT fs)
    (hN : Names fs src) (hw : ∀ i, i < fs.length → (Lit.int .i64 fs[i]!.line).wf = true) (hl : (Lit.int .i64 ld).wf = true) :
    Shape (traceT fs src ld child level) (if 20 < T - clampD level T then 15 else T - clampD level T) := by
  have hal := all_len (fs := fs) src ld child (fun i hi => (ht i hi).1)
  have hTl : (allLines fs src ld child).length = T := by omega
  have hno := no_shown hs hn ld child level
  have hend := shown_end fs src ld child level
  have hle := shown_le (child := child) hN hw hl level
  have hlen : (shownL fs src ld child level).length = if 20 < T - clampD level T then 15 else T - clampD level T := by
    unfold shownL
    rw [cut_len, List.length_drop, hTl]
  have htr : traceT fs src ld child level = ⟨((headT ++ [10]) ++ bodyOf (shownL fs src ld child level)).toArray⟩ := by unfold traceT text7; rfl
  have hl15 : (shownL fs src ld child level).length ≤ 20 := by rw [hlen]; split <;> omega
  rw [htr, ← hlen]
  generalize shownL fs src ld child level = S at *
  have hbl := body_len hl15 hle
  refine ⟨⟨(bodyOf S).toArray⟩, ?_, ?_, ?_, ?_, ?_, ?_⟩
  · show ((headT ++ [10]) ++ bodyOf S).toArray.size ≤ _
    simp [headT]
    omega
  · show ((headT ++ [10]) ++ bodyOf S).toArray.size = (bodyOf S).toArray.size + 17
    simp [headT]
  · exact bytes_pre (headT ++ [10]) (bodyOf S)
  · exact bytes_suf (headT ++ [10]) (bodyOf S)
  · intro h0
    rw [List.eq_nil_of_length_eq_zero h0]
    rfl
  · intro h0
    obtain ⟨M, hM⟩ := hend h0
    have hc := body_count hno h0
    obtain ⟨p, hp⟩ := body_end M gLine
    rw [hM] at hc ⊢
    have hg : gLine.data.toList.length = 7 := rfl
    have hsz : (⟨(bodyOf (M ++ [gLine])).toArray⟩ : ByteArray).size = p.length + 7 := by
      show (bodyOf (M ++ [gLine])).toArray.size = _
      rw [hp]; simp [hg]
    refine ⟨by omega, hc, ?_⟩
    rw [show (⟨(bodyOf (M ++ [gLine])).toArray⟩ : ByteArray).size - 7 = p.length by omega, hp]
    exact bytes_suf p gLine.data.toList
theorem count_step (l : List UInt8) (k : Nat) (h : k < l.length) : (l.take (k + 1)).count 10 = (l.take k).count 10 + if l[k] = 10 then 1 else 0 := by
  rw [List.take_succ_eq_append_getElem h, List.count_append, List.count_singleton]
  by_cases e : l[k] = 10 <;> simp [e]
theorem body_ne {b : ByteArray} (h : 7 ≤ b.size) : b.toList.isEmpty = false := by
  rw [ByteArray.toList_eq]
  cases hh : b.data.toList with
  | nil =>
    have : b.data.toList.length = b.size := by simp
    rw [hh] at this
    simp at this
    omega
  | cons _ _ => rfl
theorem traceM_any (G : Interp) {w : World} {B l c g : Nat} {fs : List Fr} {src : ByteArray} {ld : Int} {child : Bool} (h : Built w B l c g fs src ld child) (level : Int) (hlo : -9223372036854775808 ≤ level) (hhi : level ≤ 9223372036854775807) (ht : ∀ i, i < fs.length → 0 ≤ tailF fs[i]! ∧ tailF fs[i]! ≤ 65536) (hsum : sumT fs ≤ 65536) (hlen : fs.length ≤ 4096)
    (hw : ∀ i, i < fs.length → (Lit.int .i64 fs[i]!.line).wf = true) (hF : G.told.answers w.tape) (hn : Names fs src) (hld : (Lit.int .i64 ld).wf = true) :
    Calls Tryf.prog 22 #[.pointer (some ⟨l, 0, none⟩), .int .i64 level] w (StrPost w (traceT fs src ld child level)) := by
  have HC := Lib.hid (trace_any G h level hlo hhi ht hsum hlen hw hF hn hld)
  clear h hF hw ht hn hld
  generalize traceT fs src ld child level = s at *
  go_enter Tryf.func22, Tryf.ntmps22
  go_wp2_with fail
  refine HC.out.mono ?_
  rintro e w1 ⟨rfl, hb⟩
  have HB := Lib.hid hb
  clear hb
  go_wp2_with fail
  go_ret
  exact ⟨rfl, HB.out⟩
end Go.Proofs.YtjbehcabekkjdaaFmt
