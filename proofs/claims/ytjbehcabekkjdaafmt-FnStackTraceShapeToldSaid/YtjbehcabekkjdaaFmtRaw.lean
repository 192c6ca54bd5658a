/-
  The contracts of frameFuncName over a stack that zzBuild lays, and of rawFrameFuncName. Their condition: as their statements say.
-/
import Derived.Test.YtjbehcabekkjdaaFmtName
namespace Go.Proofs.YtjbehcabekkjdaaFmt
open Go.RowKit Go.Kit
open Go.Extern.Stop Go.Stop Go.Extern
set_option linter.unusedVariables false
set_option linter.unusedSimpArgs false

/-- A frame's raw name and whether it is a chunk's, out of the frames. -/
def rawOf (fs : List Fr) (k : Nat) (src : ByteArray) (ld : Int) (child : Bool) : ByteArray × Bool :=
  nameAt (if k = 0 then none else some (fs[k - 1]!.g, callsOf (some fs[k]!))) fs[k]! src ld child
theorem frameR_of {w : World} {B l c g k : Nat} {fs : List Fr} {src : ByteArray} {ld : Int} {child : Bool} (h : Built w B l c g fs src ld child) (hk : k < fs.length) : FrameR w g (k * 10) (parentOf g k) fs[k]! src ld := by
  obtain ⟨F, h1, h2⟩ := h.st
  obtain ⟨p, a1, a2⟩ := h2 k hk
  obtain ⟨f1, f2, f3, f4⟩ := h1.fr k hk
  rw [a1] at f1 f2 f4
  obtain ⟨b1, b2, b3, b4, b5⟩ := a2
  refine ⟨⟨p, f1, b3, fun hg => ?_⟩, f2, f4⟩
  obtain ⟨q, l', ao, cap, d1, d2, d3, d4, d5, d6, d7, _⟩ := b5 hg
  exact ⟨q, d5, d6, d7⟩
theorem parentR_of {w : World} {B l c g k : Nat} {fs : List Fr} {src : ByteArray} {ld : Int} {child : Bool} (h : Built w B l c g fs src ld child) (hk : k + 1 < fs.length) : ParentR w g (k * 10) fs[k]!.g (callsOf (some fs[k + 1]!)) := by
  obtain ⟨F, h1, h2⟩ := h.st
  obtain ⟨p, a1, a2⟩ := h2 k (by omega)
  obtain ⟨f1, f2, f3, f4⟩ := h1.fr k (by omega)
  rw [a1] at f1 f2 f4
  have e : nextOf fs k = some fs[k + 1]! := if_pos hk
  rw [e] at a2
  obtain ⟨b1, b2, b3, b4, b5⟩ := a2
  refine ⟨⟨p, f1, b3, fun hg => ?_⟩, f3⟩
  obtain ⟨q, l', ao, cap, d1, d2, d3, d4, d5, d6, d7, d8, d9, d10, d11⟩ := b5 hg
  exact ⟨q, ao, cap, d5, d10, fun h0 => by obtain ⟨d, e1, e2, e3⟩ := d11 h0; exact ⟨d, e1, Nat.zero_le _, e3⟩⟩
theorem callsOf_len (nx : Option Fr) : (callsOf nx).length ≤ 3 := by
  unfold callsOf
  cases nx with
  | none => simp
  | some f => simp only; split <;> (try split) <;> simp
theorem name_any (G : Interp) {w : World} {B l c g k : Nat} {fs : List Fr} {src : ByteArray} {ld : Int} {child : Bool} (h : Built w B l c g fs src ld child) (hk : k < fs.length) (hF : G.told.answers w.tape) (hs : src.size ≤ 1048576) (hw : (Lit.int .i64 ld).wf = true) :
    Calls Tryf.prog 36 #[.pointer (some ⟨l, 0, none⟩), .pointer (some ⟨g, k * 10, none⟩)] w (NamePost w (rawOf fs k src ld child)) := by
  have hf := frameR_of h hk
  unfold rawOf
  cases k with
  | zero =>
    obtain ⟨pl, h1, h2⟩ := h.ls
    exact name_bottom child h1 h2 hf
  | succ k =>
    have hp := parentR_of h hk
    rw [if_neg (by omega), show k + 1 - 1 = k from rfl]
    rw [parent_succ] at hf
    cases hg : fs[k]!.g with
    | true =>
      rw [hg] at hp
      exact name_miss G hF hf hp rfl hs hw
    | false =>
      rw [hg] at hp
      exact name_call G hF hf hp (by have := callsOf_len (some fs[k + 1]!); omega) hs hw
/-- What a call for a name gives. -/
def StrPost (w : World) (s : ByteArray) (e : Ending) (w' : World) : Prop := e = .returned (.string s) ∧ Below w.heap.size w w'
theorem raw_any (G : Interp) {w : World} {B l c g k : Nat} {fs : List Fr} {src : ByteArray} {ld : Int} {child : Bool} (h : Built w B l c g fs src ld child) (hk : k < fs.length) (hF : G.told.answers w.tape) (hs : src.size ≤ 1048576) (hw : (Lit.int .i64 ld).wf = true) :
    Calls Tryf.prog 29 #[.pointer (some ⟨l, 0, none⟩), .pointer (some ⟨g, k * 10, none⟩)] w (StrPost w (rawOf fs k src ld child).1) := by
  have HC := Lib.hid (name_any G h hk hF hs hw)
  clear h hF hw
  generalize rawOf fs k src ld child = r at *
  obtain ⟨s, b⟩ := r
  go_enter Tryf.func29, Tryf.ntmps29
  go_wp2_with fail
  refine HC.out.mono ?_
  rintro e w1 ⟨rfl, hb⟩
  have HB := Lib.hid hb
  clear hb
  go_wp2_with fail
  go_ret
  exact ⟨rfl, HB.out⟩
theorem zzRaw_any (G : Interp) {w : World} {B l c g k : Nat} {fs : List Fr} {src : ByteArray} {ld : Int} {child : Bool} (h : Built w B l c g fs src ld child) (hk : k < fs.length) (hF : G.told.answers w.tape) (hs : src.size ≤ 1048576) (hw : (Lit.int .i64 ld).wf = true) :
    Calls Tryf.prog 11 #[.pointer (some ⟨l, 0, none⟩), .pointer (some ⟨g, k * 10, none⟩)] w (StrPost w (rawOf fs k src ld child).1) := by
  have HC := Lib.hid (raw_any G h hk hF hs hw)
  clear h hF hw
  generalize (rawOf fs k src ld child).1 = s at *
  go_enter Tryf.func11, Tryf.ntmps11
  go_wp2_with fail
  refine HC.out.mono ?_
  rintro e w1 ⟨rfl, hb⟩
  have HB := Lib.hid hb
  clear hb
  go_wp2_with fail
  go_ret
  exact ⟨rfl, HB.out⟩
theorem zzAtB {w : World} {B l c g k : Nat} {fs : List Fr} {src : ByteArray} {ld : Int} {child : Bool} (h : Built w B l c g fs src ld child) (hk : k < fs.length) :
    Calls Tryf.prog 12 #[.pointer (some ⟨c, 0, none⟩), .int .i64 k] w fun e w' => e = .returned (.pointer (some ⟨g, k * 10, none⟩)) ∧ w = w' := by
  obtain ⟨F, h1, _⟩ := h.st
  exact zzAt_any h1 k hk
theorem build_n (a : Option Addr) (cap n : Nat) (fs : List Fr) (src : ByteArray) (ld : Int) (child : Bool) (w : World) (hn : fs.length = n) (h : FrsAt w a fs) (hl : fs.length ≤ 4096) :
    Calls Tryf.prog 10 #[.slice a n cap, .string src, .int .i64 ld, .bool child] w (BuildPost w fs src ld child) := hn ▸ build_any a cap fs src ld child w h hl
theorem take_get {fs : List Fr} {n i : Nat} (hi : i < n) (h : i < fs.length) : (fs.take n)[i]! = fs[i]! := by
  rw [getElem!_pos (fs.take n) i (by rw [List.length_take]; omega), getElem!_pos fs i h, List.getElem_take]
theorem raw_local {fs : List Fr} {k : Nat} (h : k < fs.length) (src : ByteArray) (ld : Int) (child : Bool) : rawOf (fs.take (k + 1)) k src ld child = rawOf fs k src ld child := by
  unfold rawOf
  rw [take_get (by omega) h, take_get (by omega) (by omega)]
theorem told_at {G : Interp} {w w' : World} (hF : G.told.answers w.tape) (hb : Below w.heap.size w w') : G.told.answers w'.tape := by rw [hb.tape]; exact hF
end Go.Proofs.YtjbehcabekkjdaaFmt
