/-
  The contract of parsePattern where the pattern is whole. Its condition: the scanner lies in a block of its own; the source has at most 2^22 bytes.
-/
import Derived.Test.YtcfhhcjcnafcjaaFmtPat
import Derived.Test.YtcfhhcjcnafcjaaFmtParseCls
import Derived.Test.YtcfhhcjcnafcjaaFmtScan2
import Derived.Test.YtcfhhcjcnafcjaaFmtErr
import Derived.StillTailTactics
namespace Go.Proofs.YtcfhhcjcnafcjaaFmt
open Go.RowKit
set_option linter.unusedVariables false
set_option linter.unusedSimpArgs false

theorem pattern_info : (Tryf.prog.info? 105).map (fun i => (i.zero, i.size, i.bytes)) = some (some .nilIface, 1, 16) := by kernel_rfl
theorem news_at2 {W : World} {v : Value} {T : TypeId} {n : Nat} (h : W.heap.size = n) : ∀ (j : Nat) (u : Value), [v][j]? = some u → (W.alloc (.cells #[v] T)).cell? ((⟨n, 0, none⟩ : Addr).add j) = some u := by
  subst h
  exact fun j u hj => cell_one_new W v T j u hj
theorem chr_lt {zs : List Int} {c : Nat} (h : chr zs c ≠ -1) : c < zs.length := by
  rcases Nat.lt_or_ge c zs.length with h1 | h1
  · exact h1
  · exact absurd (by unfold chr; rw [if_neg (by omega)]) h
section
variable {w : World} {b : Nat} {sao : Option Addr} {scap : Nat} {zs : List Int} {c s : Nat}
/-- What stands behind 'pat.Patterns = append(pat.Patterns, ..)'. -/
def AfterIt (w : World) (B b : Nat) (sao : Option Addr) (scap : Nat) (zs : List Int) (s m : Nat) (must tail : Bool) (acc : List Pt) (vs : List Value) (p : Pt) (c : Nat) (wc : World) : Prop :=
  ∃ g cap v, PatO wc B m must tail (some ⟨g, 0, none⟩) cap (acc ++ [p]) (vs ++ [v]) ∧ Scan wc b sao scap zs c s ∧ w.grownBy wc (some b)
theorem afterIt_mk {w wa w3 : World} {B b m : Nat} {sao : Option Addr} {scap : Nat} {zs : List Int} {c s : Nat} {must tail : Bool} {ao : Option Addr} {cap : Nat} {acc : List Pt} {vs : List Value} {p : Pt} {v : Value} {g1 c1 : Nat}
    (hB : w.heap.size = B) (hb : b < B) (hsrc : ∀ sb so, sao = some ⟨sb, so, none⟩ → sb < B) (h : PatO wa B m must tail ao cap acc vs) (hit : PtsAt (fun k => k < B ∨ k = m ∨ blkOf ao = some k) wa [p] [v])
    (hsc : Scan wa b sao scap zs c s) (hg : w.grownBy wa (some b)) (hgrow : wa.grownBy w3 (blkOf ao))
    (hown : w3.ownsRow B 105 1 (.slice (some ⟨g1, 0, none⟩) (acc.length + 1) c1) (acc.length + 1) (vs ++ [v])) (hat : blkOf ao = some g1 ∨ wa.heap.size ≤ g1) :
    AfterIt w B b sao scap zs s m must tail acc vs p c (w3.setCell ⟨m, 2, none⟩ (.slice (some ⟨g1, 0, none⟩) (acc.length + 1) c1)) :=
  ⟨g1, c1, v, h.push hit hgrow hown hat, (hsc.push (B := B) hgrow (fun x hx => (h.row x hx).2.1) hb hsrc).setFar (B := B) h.hm hb hsrc,
    one_setCell (one_push hg hgrow (fun x hx => by have := (h.row x hx).2.1; omega)) (.inr (by have := h.hm; simp; omega)) _⟩
theorem afterIt_mk' {w wa w3 : World} {B b m : Nat} {sao : Option Addr} {scap : Nat} {zs : List Int} {c s : Nat} {must tail : Bool} {ao : Option Addr} {cap : Nat} {acc : List Pt} {vs : List Value} {p : Pt} {v : Value} {g1 c1 H : Nat}
    (hB : w.heap.size = B) (hb : b < B) (hsrc : ∀ sb so, sao = some ⟨sb, so, none⟩ → sb < B) (h : PatO wa B m must tail ao cap acc vs) (hit : PtsAt (fun k => k < B ∨ k = m ∨ blkOf ao = some k) wa [p] [v])
    (hsc : Scan wa b sao scap zs c s) (hg : w.grownBy wa (some b)) (hgrow : wa.grownBy w3 (Value.slice ao acc.length cap).ownBlock)
    (hown : w3.ownsRow B 105 1 (.slice (some ⟨g1, 0, none⟩) (acc.length + 1) c1) (acc.length + 1) (vs ++ [v])) (hat : (Value.slice ao acc.length cap).ownBlock = some g1 ∨ g1 = H) (hH : wa.heap.size ≤ H := by simp) :
    AfterIt w B b sao scap zs s m must tail acc vs p c (w3.setCell ⟨m, 2, none⟩ (.slice (some ⟨g1, 0, none⟩) (acc.length + 1) c1)) := by
  rw [ownBlock_slice] at hgrow hat
  exact afterIt_mk hB hb hsrc h hit hsc hg hgrow hown (hat.imp id (fun e => by omega))
theorem xlt {W : World} {B m : Nat} {must tail : Bool} {ao : Option Addr} {cap : Nat} {acc : List Pt} {vs : List Value} (h : PatO W B m must tail ao cap acc vs) : ∀ k, (k < B ∨ k = m ∨ blkOf ao = some k) → k < W.heap.size := by
  have hm := blk_lt h.blk
  have := h.hm
  rintro k (hk | hk | hk)
  · omega
  · omega
  · exact (h.row k hk).2.2
theorem xle {W : World} {B m : Nat} {must tail : Bool} {ao : Option Addr} {cap : Nat} {acc : List Pt} {vs : List Value} (h : PatO W B m must tail ao cap acc vs) {n : Nat} (hn : W.heap.size ≤ n) : ∀ k, (k < B ∨ k = m ∨ blkOf ao = some k) → k < W.heap.size ∧ k < n :=
  fun k hk => by have := xlt h k hk; omega
theorem it_chr (W : World) (z : Int) {X : Nat → Prop} (hX : ∀ k, X k → k < W.heap.size) (o : Obj) :
    PtsAt X (((W.alloc (.cells #[.int .i64 z] 114)).alloc (.cells #[.iface 112 (.pointer (some ⟨W.heap.size, 0, none⟩))] 100)).alloc o) [.one (.el (.chr z))] [.iface 95 (.pointer (some ⟨W.heap.size + 1, 0, none⟩))] := by
  have s1 : (W.alloc (.cells #[.int .i64 z] 114)).heap.size = W.heap.size + 1 := by simp
  have b2 := blk_new (W.alloc (.cells #[.int .i64 z] 114)) (.cells #[.iface 112 (.pointer (some ⟨W.heap.size, 0, none⟩))] 100)
  rw [s1] at b2
  exact .one (fun h => by have := hX _ h; omega) (blk_alloc b2 _) ⟨W.heap.size, rfl, fun h => by have := hX _ h; omega, blk_alloc (blk_alloc (blk_new _ _) _) _⟩ .nil
/-- An item of one class that a call has laid. -/
theorem it_one (W : World) {X : Nat → Prop} {n : Nat} {cl : Cl} {v : Value} (hX : ∀ k, X k → k < n ∧ k < W.heap.size) (h : ClAt (fun k => k < n) W cl v) (o : Obj) :
    PtsAt X ((W.alloc (.cells #[v] 100)).alloc o) [.one cl] [.iface 95 (.pointer (some ⟨W.heap.size, 0, none⟩))] :=
  .one (fun h => by have := hX _ h; omega) (blk_alloc (blk_new _ _) _) (h.kept (fun k o' _ ho => blk_alloc (blk_alloc ho _) _) (fun k _ hk => (hX k hk).1)) .nil

theorem it_rep (W : World) (z : Int) {X : Nat → Prop} {cl : Cl} {v : Value} (hX : ∀ k, X k → k < W.heap.size) (h : ClAt X W cl v) (o : Obj) :
    PtsAt X ((W.alloc (.cells #[.int .i64 z, v] 111)).alloc o).drew [.rep z cl] [.iface 109 (.pointer (some ⟨W.heap.size, 0, none⟩))] :=
  .rep (fun h => by have := hX _ h; omega) (blk_drew (blk_alloc (blk_new _ _) _)) (h.kept (fun k o' _ ho => blk_drew (blk_alloc (blk_alloc ho _) _)) (fun _ _ h => h)) .nil
theorem it_pos (W : World) {X : Nat → Prop} (o o' : Obj) : PtsAt X ((W.alloc o').alloc o) [.pos] [.iface 101 (.pointer (some ⟨W.heap.size, 0, none⟩))] := .pos .nil
theorem it_num (W : World) (n : Int) {X : Nat → Prop} (hX : ∀ k, X k → k < W.heap.size) (o : Obj) : PtsAt X ((W.alloc (.cells #[.int .i64 n] 91)).alloc o) [.num n] [.iface 89 (.pointer (some ⟨W.heap.size, 0, none⟩))] :=
  .num (fun h => by have := hX _ h; omega) (blk_alloc (blk_new _ _) _) .nil
theorem it_brace (W : World) (x y : Int) {X : Nat → Prop} (hX : ∀ k, X k → k < W.heap.size) (o : Obj) : PtsAt X ((W.alloc (.cells #[.int .i64 x, .int .i64 y] 94)).alloc o) [.brace x y] [.iface 92 (.pointer (some ⟨W.heap.size, 0, none⟩))] :=
  .brace (fun h => by have := hX _ h; omega) (blk_alloc (blk_new _ _) _) .nil
theorem it_cap {W : World} {X : Nat → Prop} {B q n cap : Nat} {must tl : Bool} {ao : Option Addr} {l : List Pt} {vs : List Value} {o : Obj} (h : PatO W B q must tl ao cap l vs) (hc : W.heap[n]? = some (.cells #[.iface 66 (.pointer (some ⟨q, 0, none⟩))] 107 (0, 0))) (hX : ∀ k, X k → k < B) (hn : B ≤ n) (hq : B ≤ q) :
    PtsAt X (W.alloc o) [.cap l] [.iface 104 (.pointer (some ⟨n, 0, none⟩))] :=
  .cap (fun hx => by have := hX _ hx; omega) (blk_alloc hc _) (fun hx => by have := hX _ hx; omega) (blk_alloc h.blk _) (owns_base (h.own.alloc o) (Nat.zero_le _)) (fun g hg hx => by have := (h.row g hg).2.1; have := hX _ hx; omega)
    (h.els.kept (fun k o' _ ho => blk_alloc ho _) (fun k _ hk => .inl (hX k hk))) .nil
theorem chr_min (zs : List Int) (c : Nat) (h : c ≤ zs.length + 1 ∨ True) : chr zs (min c (zs.length + 1)) = chr zs c := by
  unfold chr
  by_cases h1 : c < zs.length
  · rw [show min c (zs.length + 1) = c by omega]
  · rw [if_neg (by omega), if_neg (by omega)]
theorem next_is {z : Int} {c' : Nat} (h : Scan w b sao scap zs c s) (hz : chr zs c = z) (hc : min (c + 1) (zs.length + 1) = c') :
    Calls Tryf.prog 25 #[.pointer (some ⟨b, 0, none⟩)] w fun e w' => e = .returned (.int .i64 z) ∧ Scan w' b sao scap zs c' s ∧ w.grownBy w' (some b) := by
  subst hz hc; exact next_any h
theorem npos_is {z : Int} (h : Scan w b sao scap zs c s) (hz : Hid (nposOf zs.length c = z)) :
    Calls Tryf.prog 31 #[.pointer (some ⟨b, 0, none⟩)] w fun e w' => e = .returned (.int .i64 z) ∧ Scan w' b sao scap zs c s ∧ w.grownBy w' (some b) := by
  rw [← hz.out]
  exact (npos_any h).mono fun e w' ⟨h1, k, h2⟩ => by subst h2; exact ⟨h1, h.drewN' k, one_drewN (one_refl _ _) k⟩
@[go_sem] theorem as_single (v : Value) (w : World) : (Instr.typeAssert (.iface 95 v) 105 95 true).run Tryf.prog w = .ok (.tuple #[v, .bool true]) w := by kernel_rfl
@[go_sem] theorem as_rep (v : Value) (w : World) : (Instr.typeAssert (.iface 109 v) 105 95 true).run Tryf.prog w = .ok (.tuple #[.pointer none, .bool false]) w := by kernel_rfl
@[go_sem] theorem as_pos (v : Value) (w : World) : (Instr.typeAssert (.iface 101 v) 105 95 true).run Tryf.prog w = .ok (.tuple #[.pointer none, .bool false]) w := by kernel_rfl
@[go_sem] theorem as_cap (v : Value) (w : World) : (Instr.typeAssert (.iface 104 v) 105 95 true).run Tryf.prog w = .ok (.tuple #[.pointer none, .bool false]) w := by kernel_rfl
@[go_sem] theorem as_num (v : Value) (w : World) : (Instr.typeAssert (.iface 89 v) 105 95 true).run Tryf.prog w = .ok (.tuple #[.pointer none, .bool false]) w := by kernel_rfl
@[go_sem] theorem as_brace (v : Value) (w : World) : (Instr.typeAssert (.iface 92 v) 105 95 true).run Tryf.prog w = .ok (.tuple #[.pointer none, .bool false]) w := by kernel_rfl
theorem PRun.le {zs : List Int} {top : Bool} {c : Nat} {acc : List Pt} {q : Bool} {r : PR} {l : List Pt} {tl : Bool} {cf : Nat} (h : PRun zs top c acc q r) : c ≤ zs.length + 1 → r = .ok l tl cf → c ≤ cf := by
  induction h generalizing l tl cf with
  | fin _ => intro h1 h2; cases h2; exact h1
  | close _ => intro h1 h2; cases h2; exact Nat.le_refl _
  | closeTop _ => intro _ h2; cases h2
  | idx _ _ => intro _ h2; cases h2
  | clsErr _ _ => intro _ h2; cases h2
  | capOpen _ _ _ _ _ => intro _ h2; cases h2
  | capErr _ _ _ _ => intro _ h2; cases h2
  | num h1 h2 h3 _ ih => intro hc hr; have := ih (by have := chr_lt (zs := zs) (c := _) (by rw [h1]; omega); omega) hr; omega
  | brace h1 h2 _ ih => intro hc hr; have hh := chr_lt (zs := zs) (c := _) (by rw [h1]; omega); have := ih (by omega) hr; omega
  | esc h1 _ _ _ ih => intro hc hr; have := ih (by have := chr_lt (zs := zs) (c := _) (by rw [h1]; omega); omega) hr; omega
  | cls h1 h2 _ ih => intro hc hr; have h3 := parseCls_lt h2; simp only at h3; have := ih (by omega) hr; omega
  | posc h1 _ _ ih => intro hc hr; have := ih (by have := chr_lt (zs := zs) (c := _) (by rw [h1]; omega); omega) hr; omega
  | capt h1 _ _ h3 _ ih1 ih2 => intro hc hr; have h4 := chr_lt (zs := zs) (c := _) (by rw [h1]; omega); have h5 := chr_lt (zs := zs) (c := _) (by rw [h3]; omega); have := ih1 (by omega) rfl; have := ih2 (by omega) hr; omega
  | quant h1 _ ih => intro hc hr; have := ih (by have := chr_lt (zs := zs) (c := _) (by rcases h1 with h | h | h | h <;> (rw [h]; omega)); omega) hr; omega
  | quantLit h1 _ _ ih => intro hc hr; have := ih (by have := chr_lt (zs := zs) (c := _) (by rcases h1 with h | h | h | h <;> (rw [h]; omega)); omega) hr; omega
  | tail h1 _ _ ih => intro hc hr; have := ih (by have := chr_lt (zs := zs) (c := _) (by rw [h1]; omega); omega) hr; omega
  | dollar h1 _ _ ih => intro hc hr; have := ih (by have := chr_lt (zs := zs) (c := _) (by rw [h1]; omega); omega) hr; omega
  | lit h1 _ _ ih => intro hc hr; have := ih (by omega) hr; omega

/-- What the parser of a pattern leaves. -/
def PatPost (w : World) (b : Nat) (sao : Option Addr) (scap : Nat) (zs : List Int) (must tl : Bool) (l : List Pt) (c : Nat) (e : Ending) (w' : World) : Prop :=
  ∃ q ao cap vs s', e = .returned (.pointer (some ⟨q, 0, none⟩)) ∧ w.heap.size ≤ q ∧ PatO w' w.heap.size q must tl ao cap l vs ∧ Scan w' b sao scap zs c s' ∧ w.grownBy w' (some b)
theorem patPost_mk {w w' : World} {B b c s : Nat} {sao : Option Addr} {scap : Nat} {zs : List Int} {must tl : Bool} {ao : Option Addr} {cap : Nat} {l : List Pt} {vs : List Value} (hB : w.heap.size = B) (h : PatO w' B B must tl ao cap l vs) (hs : Scan w' b sao scap zs c s) (hg : w.grownBy w' (some b)) :
    PatPost w b sao scap zs must tl l c (.returned (.pointer (some ⟨B, 0, none⟩))) w' := by
  subst hB
  exact ⟨_, _, _, _, _, rfl, Nat.le_refl _, h, hs, hg⟩

/-- How the parser begins: '^' at the top. -/
def PTop (zs : List Int) (top : Bool) (c : Nat) (must : Bool) (r : PR) : Prop :=
  (top = true ∧ chr zs c = 94 ∧ must = true ∧ PRun zs true (c + 1) [] false r) ∨ ((top = true → (chr zs c == 94) = false) ∧ must = false ∧ PRun zs top c [] false r)
/-- The loop's body, taken out of the translation. -/
def firstLoop : Code → Option Code
  | .loop c => some c
  | .seq a b => match firstLoop a with
    | some c => some c
    | none => firstLoop b
  | .block _ c => firstLoop c
  | .scope c => firstLoop c
  | .cond _ a b => match firstLoop a with
    | some c => some c
    | none => firstLoop b
  | _ => none
noncomputable def ppBody : Code := ((Tryf.f18.body.bind firstLoop).getD .skip)
/-- What the loop's frame keeps. -/
structure PFr (b B : Nat) (top : Bool) (a : Act) : Prop where
  df : a.defers = []
  sz : a.tmps.size = 308
  s0 : a.tmps[0]? = some (.pointer (some ⟨b, 0, none⟩))
  s1 : a.tmps[1]? = some (.bool top)
  s5 : a.tmps[5]? = some (.pointer (some ⟨B, 0, none⟩))
/-- What holds at the loop's head, at the cursor c. -/
def PRel (w : World) (B b : Nat) (sao : Option Addr) (scap : Nat) (zs : List Int) (top must : Bool) (r : PR) (cs : Nat) (wr : World) (c : Nat) : Prop :=
  ∃ s q ao cap acc vs, PatO wr B B must q ao cap acc vs ∧ Scan wr b sao scap zs c s ∧ w.grownBy wr (some b) ∧ PRun zs top c acc q r ∧ acc.length ≤ c ∧ cs ≤ c ∧ c ≤ zs.length + 1
/-- What holds behind it. -/
def PFin (w : World) (B b : Nat) (sao : Option Addr) (scap : Nat) (zs : List Int) (must : Bool) (r : PR) (wr : World) : Prop :=
  ∃ l tl cf s ao cap vs, r = PR.ok l tl cf ∧ PatO wr B B must tl ao cap l vs ∧ Scan wr b sao scap zs cf s ∧ w.grownBy wr (some b)
/-- The loop's ways out. -/
def PQ (w : World) (B b : Nat) (sao : Option Addr) (scap : Nat) (zs : List Int) (top must : Bool) (r : PR) : Exit → Act → World → Prop
  | .goto n, a, w' => n = 0 ∧ PFr b B top a ∧ PFin w B b sao scap zs must r w'
  | .ret, a, w' => PFr b B top a ∧ a.tmps[4]? = some (.pointer (some ⟨B, 0, none⟩)) ∧ PFin w B b sao scap zs must r w'
  | .panic ch, a, w' => a.defers = [] ∧ w.grownBy w' (some b) ∧ ∃ p m, r = PR.err p m ∧ ErrAt w' B p m ch
  | _, _, _ => False
/-- What the parser of a pattern leaves, whatever the pattern. -/
def PatPostR (w : World) (b : Nat) (sao : Option Addr) (scap : Nat) (zs : List Int) (must : Bool) (r : PR) (e : Ending) (w' : World) : Prop :=
  match r with
  | .ok l tl c => PatPost w b sao scap zs must tl l c e w'
  | .err p m => ∃ ch, e = .panicked ch ∧ w.grownBy w' (some b) ∧ ErrAt w' w.heap.size p m ch
/-- The contract of the parser inside a capture, further on in the source. -/
def PIh (b : Nat) (sao : Option Addr) (scap : Nat) (zs : List Int) (cs : Nat) : Prop := ∀ (w : World) (c' s : Nat) (r : PR), Scan w b sao scap zs c' s → cs < c' → c' ≤ zs.length → PRun zs false c' [] false r →
  Calls Tryf.prog 18 #[.pointer (some ⟨b, 0, none⟩), .bool false] w (PatPostR w b sao scap zs false r)

end

end Go.Proofs.YtcfhhcjcnafcjaaFmt