/-
  The contracts of Matches of one character, of a range of two characters and of a set of such elements, and of the exported helper that builds a set. Conditions as each states.
-/
import Derived.Test.YtkpnjhnopgbhlaaMem
import Derived.BigGuardPart
import Derived.Deep.RegionWith
import Derived.Deep.RegionLaw
import Derived.Deep.RegionHeld
import Derived.Deep.AppendLies
import Derived.Deep.CutRange
import Derived.Deep.DeepCutAuto
import Derived.Deep.LoopGhost
import Derived.WalkLawsBesides
namespace Go.Proofs.Ytkpnjhnopgbhlaa
open Go.RowKit
set_option linter.unusedVariables false
set_option linter.unusedSimpArgs false

/-- An element of a set. -/
inductive E2 where
  | chr (c : Int)
  | rng (b e : Int)
def E2.has : E2 → Int → Bool
  | .chr c, ch => c == ch
  | .rng b e, ch => decide (b ≤ ch) && decide (ch ≤ e)
def setHas (neg : Bool) (l : List E2) (ch : Int) : Bool := if l.any (fun e => e.has ch) then !neg else neg

def E2At (w : World) : E2 → Value → Prop
  | .chr c, v => ∃ b, v = .iface 30 (.pointer (some ⟨b, 0, none⟩)) ∧ w.heap[b]? = some (.cells #[.int .i64 c] 32 (0, 0))
  | .rng lo hi, v => ∃ b p q, v = .iface 34 (.pointer (some ⟨b, 0, none⟩)) ∧ w.heap[b]? = some (.cells #[.iface 30 (.pointer (some ⟨p, 0, none⟩)), .iface 30 (.pointer (some ⟨q, 0, none⟩))] 38 (0, 0)) ∧
      w.heap[p]? = some (.cells #[.int .i64 lo] 32 (0, 0)) ∧ w.heap[q]? = some (.cells #[.int .i64 hi] 32 (0, 0))
/-- Every block but the rows of classes is kept. -/
def Keep (w w' : World) : Prop := ∀ (k : Nat) (c : Array Value) (T : TypeId) (r : Nat × Nat), T ≠ 36 → w.heap[k]? = some (.cells c T r) → w'.heap[k]? = some (.cells c T r)
theorem E2At.kept {w w' : World} {e : E2} {v : Value} (h : E2At w e v) (hk : Keep w w') : E2At w' e v := by
  cases e with
  | chr c => obtain ⟨b, h1, h2⟩ := h; exact ⟨b, h1, hk _ _ _ _ (by decide) h2⟩
  | rng lo hi => obtain ⟨b, p, q, h1, h2, h3, h4⟩ := h; exact ⟨b, p, q, h1, hk _ _ _ _ (by decide) h2, hk _ _ _ _ (by decide) h3, hk _ _ _ _ (by decide) h4⟩
inductive E2sAt (w : World) : List E2 → List Value → Prop
  | nil : E2sAt w [] []
  | cons {e v es vs} : E2At w e v → E2sAt w es vs → E2sAt w (e :: es) (v :: vs)
theorem E2sAt.kept {w w' : World} {es : List E2} {vs : List Value} (h : E2sAt w es vs) (hk : Keep w w') : E2sAt w' es vs := by
  induction h with
  | nil => exact .nil
  | cons h1 _ ih => exact .cons (h1.kept hk) ih
theorem E2sAt.length {w : World} {es : List E2} {vs : List Value} (h : E2sAt w es vs) : vs.length = es.length := by
  induction h with
  | nil => rfl
  | cons _ _ ih => simp [ih]
theorem E2sAt.append {w : World} {es fs : List E2} {vs us : List Value} (h : E2sAt w es vs) (k : E2sAt w fs us) : E2sAt w (es ++ fs) (vs ++ us) := by
  induction h with
  | nil => exact k
  | cons h1 _ ih => exact .cons h1 ih
theorem E2sAt.get {w : World} {es : List E2} {vs : List Value} (h : E2sAt w es vs) : ∀ (i : Nat) (e : E2), es[i]? = some e → ∃ v, vs[i]? = some v ∧ E2At w e v := by
  induction h with
  | nil => intro i e h; simp at h
  | cons h1 _ ih =>
    intro i e h
    cases i with
    | zero => simp at h; subst h; exact ⟨_, rfl, h1⟩
    | succ i => simpa using ih i e (by simpa using h)

theorem own_type {w : World} {B : Nat} {T : TypeId} {sz : Nat} {ao : Option Addr} {n cap : Nat} {xs : List Value} (ho : w.ownsRow B T sz (.slice ao n cap) n xs) : ∀ g, blkOf ao = some g → ∃ c, w.heap[g]? = some (.cells c T (0, 0)) := by
  intro g' hg'
  rcases ho.2 with ⟨h1, h2⟩ | ⟨g, c, cur, h1, _, hg, _⟩
  · simp only [Value.slice.injEq] at h1
    rw [h1.1] at hg'; simp [blkOf] at hg'
  · simp only [Value.slice.injEq] at h1
    rw [h1.1] at hg'
    simp only [blkOf, Option.map_some, Option.some.injEq] at hg'
    subst hg'
    exact ⟨_, hg⟩
theorem own_block {w : World} {B : Nat} {T : TypeId} {sz : Nat} {ao : Option Addr} {n cap : Nat} {xs : List Value} (ho : w.ownsRow B T sz (.slice ao n cap) n xs) : ∀ g, blkOf ao = some g → B ≤ g ∧ g < w.heap.size := by
  intro g hg
  rcases ho.2 with ⟨h1, h2⟩ | ⟨g', c', cur, h1, hb, hh, _⟩
  · simp only [Value.slice.injEq] at h1; rw [h1.1] at hg; simp [blkOf] at hg
  · simp only [Value.slice.injEq] at h1
    rw [h1.1] at hg
    simp only [blkOf, Option.map_some, Option.some.injEq] at hg
    subst hg
    exact ⟨hb, blk_lt hh⟩

/-- A set under construction: the row of its elements. -/
structure SetB (w : World) (B : Nat) (ao : Option Addr) (cap : Nat) (l : List E2) : Prop where
  own : ∃ vs, w.ownsRow B 36 1 (.slice ao l.length cap) l.length vs ∧ E2sAt w l vs

theorem keep_alloc (w : World) (o : Obj) : Keep w (w.alloc o) := fun _ _ _ _ _ h => blk_alloc h o
theorem keep_drewN (w : World) (n : Nat) : Keep w (w.drewN n) := fun _ _ _ _ _ h => h
theorem Keep.trans {a b c : World} (h : Keep a b) (k : Keep b c) : Keep a c := fun i x T r hT hx => k i x T r hT (h i x T r hT hx)

/-- An element pushed: W: the world at the append, behind it w2. -/
theorem SetB.push {w W w2 : World} {B g cap cap' : Nat} {ao : Option Addr} {l : List E2} {vs : List Value} {e : E2} {v : Value} (hown0 : W.ownsRow B 36 1 (.slice ao l.length cap) l.length vs) (hk : Keep w W) (hels : E2sAt w l vs) (he : E2At W e v)
    (hg : W.grownBy w2 (blkOf ao)) (hown : w2.ownsRow B 36 1 (.slice (some ⟨g, 0, none⟩) (l.length + 1) cap') (l.length + 1) (vs ++ [v])) :
    SetB w2 B (some ⟨g, 0, none⟩) cap' (l ++ [e]) := by
  have hk2 : Keep W w2 := fun k c T r hT hx => blk_grown hx hg (fun e => by
    obtain ⟨d, hd⟩ := own_type hown0 k e.symm
    rw [hd] at hx
    simp only [Option.some.injEq, Obj.cells.injEq] at hx
    exact hT hx.2.1.symm)
  exact ⟨vs ++ [v], by simpa using hown, (hels.kept (hk.trans hk2)).append (.cons (he.kept hk2) .nil)⟩
theorem rng_push {w W w2 : World} {B g n cap cap' : Nat} {ao : Option Addr} {l : List E2} {vs : List Value} {e : E2} {v : Value} (hn : l.length = n) (hown0 : W.ownsRow B 36 1 (.slice ao n cap) n vs) (hk : Keep w W) (hels : E2sAt w l vs) (he : E2At W.drew e v)
    (hg : W.drew.grownBy w2 (Value.slice ao n cap).ownBlock) (hown : w2.ownsRow B 36 1 (.slice (some ⟨g, 0, none⟩) (n + 1) cap') (n + 1) (vs ++ [v])) :
    SetB w2 B (some ⟨g, 0, none⟩) cap' (l ++ [e]) := by
  subst hn
  rw [ownBlock_slice] at hg
  have hown0' : W.drew.ownsRow B 36 1 (.slice ao l.length cap) l.length vs := hown0
  exact SetB.push hown0' (hk.trans (keep_drewN W 1)) hels he hg hown
theorem rngAt1 (w : World) (y z : Int) (S : Obj) : E2At ((((w.alloc (.cells #[.int .i64 y] 32)).alloc (.cells #[.int .i64 z] 32)).alloc (.cells #[.iface 30 (.pointer (some ⟨w.heap.size, 0, none⟩)), .iface 30 (.pointer (some ⟨w.heap.size + 1, 0, none⟩))] 38)).alloc S).drew (.rng y z) (.iface 34 (.pointer (some ⟨w.heap.size + 2, 0, none⟩))) := by
  have s1 : (w.alloc (.cells #[.int .i64 y] 32)).heap.size = w.heap.size + 1 := by simp
  have s2 : ((w.alloc (.cells #[.int .i64 y] 32)).alloc (.cells #[.int .i64 z] 32)).heap.size = w.heap.size + 2 := by simp
  have b2 := blk_new (w.alloc (.cells #[.int .i64 y] 32)) (.cells #[.int .i64 z] 32)
  have b3 := blk_new ((w.alloc (.cells #[.int .i64 y] 32)).alloc (.cells #[.int .i64 z] 32)) (.cells #[.iface 30 (.pointer (some ⟨w.heap.size, 0, none⟩)), .iface 30 (.pointer (some ⟨w.heap.size + 1, 0, none⟩))] 38)
  rw [s1] at b2
  rw [s2] at b3
  exact ⟨w.heap.size + 2, w.heap.size, w.heap.size + 1, rfl, blk_drew (blk_alloc b3 _), blk_drew (blk_alloc (blk_alloc (blk_alloc (blk_new _ _) _) _) _), blk_drew (blk_alloc (blk_alloc b2 _) _)⟩
theorem rngAt2 (w : World) (y z : Int) (S : Obj) : E2At ((((w.alloc (.cells #[.int .i64 z] 32)).alloc (.cells #[.int .i64 y] 32)).alloc (.cells #[.iface 30 (.pointer (some ⟨w.heap.size + 1, 0, none⟩)), .iface 30 (.pointer (some ⟨w.heap.size, 0, none⟩))] 38)).alloc S).drew (.rng y z) (.iface 34 (.pointer (some ⟨w.heap.size + 2, 0, none⟩))) := by
  have s1 : (w.alloc (.cells #[.int .i64 z] 32)).heap.size = w.heap.size + 1 := by simp
  have s2 : ((w.alloc (.cells #[.int .i64 z] 32)).alloc (.cells #[.int .i64 y] 32)).heap.size = w.heap.size + 2 := by simp
  have b2 := blk_new (w.alloc (.cells #[.int .i64 z] 32)) (.cells #[.int .i64 y] 32)
  have b3 := blk_new ((w.alloc (.cells #[.int .i64 z] 32)).alloc (.cells #[.int .i64 y] 32)) (.cells #[.iface 30 (.pointer (some ⟨w.heap.size + 1, 0, none⟩)), .iface 30 (.pointer (some ⟨w.heap.size, 0, none⟩))] 38)
  rw [s1] at b2
  rw [s2] at b3
  exact ⟨w.heap.size + 2, w.heap.size + 1, w.heap.size, rfl, blk_drew (blk_alloc b3 _), blk_drew (blk_alloc (blk_alloc b2 _) _), blk_drew (blk_alloc (blk_alloc (blk_alloc (blk_new _ _) _) _) _)⟩
theorem below_push {w w2 W : World} {B : Nat} {row : Option Nat} (h : Below B w W) (hg : W.grownBy w2 row) (hr : ∀ g, row = some g → B ≤ g) (hB : B ≤ W.heap.size) : Below B w w2 :=
  h.trans ⟨hg.os, hg.tape, hg.output, hg.size, fun q hq => hg.block q (by omega) (fun e => by have := hr q e.symm; omega)⟩

theorem class_info : (Try.prog.info? 36).map (fun i => (i.zero, i.size, i.bytes)) = some (some .nilIface, 1, 16) := by kernel_rfl
@[go_sem] theorem m_chr (n : Nat) (a : Option Addr) (w : World) : (method (n + 1) 30 (.pointer a) "Matches").run Try.prog w = .ok (12, .pointer a) w := by kernel_rfl
@[go_sem] theorem m_rng (n : Nat) (a : Option Addr) (w : World) : (method (n + 1) 34 (.pointer a) "Matches").run Try.prog w = .ok (13, .pointer a) w := by kernel_rfl
@[go_sem] theorem as_chr (v : Value) (w : World) : (Instr.typeAssert (.iface 30 v) 36 30 true).run Try.prog w = .ok (.tuple #[v, .bool true]) w := by kernel_rfl

theorem chrM_any {b : Nat} {c : Int} (ch : Int) {w : World} (hc : w.cell? ⟨b, 0, none⟩ = some (.int .i64 c)) :
    Calls Try.prog 12 #[.pointer (some ⟨b, 0, none⟩), .int .i64 ch] w fun e w' => e = .returned (.bool (c == ch)) ∧ w = w' := by
  go_enter Try.func12, Try.ntmps12
  go_wp2
  go_ret
  exact ⟨rfl, rfl⟩
theorem rngM_cc {m p q : Nat} {b e : Int} (ch : Int) {w : World} (h0 : w.cell? ⟨m, 0, none⟩ = some (.iface 30 (.pointer (some ⟨p, 0, none⟩)))) (h1 : w.cell? ⟨m, 1, none⟩ = some (.iface 30 (.pointer (some ⟨q, 0, none⟩))))
    (hb : w.cell? ⟨p, 0, none⟩ = some (.int .i64 b)) (he : w.cell? ⟨q, 0, none⟩ = some (.int .i64 e)) :
    Calls Try.prog 13 #[.pointer (some ⟨m, 0, none⟩), .int .i64 ch] w fun e' w' => e' = .returned (.bool (decide (b ≤ ch) && decide (ch ≤ e))) ∧ w = w' := by
  by_cases q1 : b ≤ ch
  all_goals
    go_enter Try.func13, Try.ntmps13
    go_wp2
    go_ret
    exact ⟨ret_bool (by first | (simp [q1]; done) | (simp; omega)), rfl⟩

theorem any_take_succ (l : List E2) (k : Nat) (ch : Int) (h : k < l.length) : (l.take (k + 1)).any (fun e => e.has ch) = ((l.take k).any (fun e => e.has ch) || (l[k]).has ch) := by
  rw [List.take_succ_eq_append_getElem h, List.any_append]; simp only [List.any_cons, List.any_nil, Bool.or_false]
theorem set_hit {l : List E2} {k : Nat} {ch : Int} {e : E2} (h : k < l.length) (he : l[k] = e) (hh : e.has ch = true) (neg : Bool) : setHas neg l ch = !neg := by
  have : l.any (fun e => e.has ch) = true := List.any_eq_true.2 ⟨l[k], List.getElem_mem h, by rw [he]; exact hh⟩
  simp only [setHas, this, if_true]

set_option maxHeartbeats 1000000 in
/-- The contract of a set's Matches. -/
theorem setM_any {neg : Bool} {l : List E2} {m cap : Nat} {ao : Option Addr} {vs : List Value} (ch : Int) {w : World} (hm : w.heap[m]? = some (.cells #[.bool neg, .slice ao l.length cap] 42 (0, 0)))
    (ho : w.ownsRow 0 36 1 (.slice ao l.length cap) l.length vs) (hl : E2sAt w l vs) (hlen : l.length ≤ 9223372036854775807) :
    Calls Try.prog 14 #[.pointer (some ⟨m, 0, none⟩), .int .i64 ch] w fun e' w' => e' = .returned (.bool (setHas neg l ch)) ∧ w = w' := by
  have h0 := blk_cell hm 0 _ rfl
  have h1 := blk_cell hm 1 _ rfl
  have HO := Lib.hid ho
  have HL := Lib.hid hl
  clear ho hl hm
  go_enter Try.func14, Try.ntmps14
  go_wp2
  go_loop [12] (fun i => ∃ k : Nat, k ≤ l.length ∧ i = .int .i64 k ∧ Hid ((l.take k).any (fun e => e.has ch) = false)) (fun i => l.length - (intOf i).toNat)
  case atStart => exact ⟨0, Nat.zero_le _, rfl, Lib.hid rfl⟩
  case round =>
    obtain ⟨k, hk, rfl, HN⟩ := hrel
    by_cases hlt : k < l.length
    · obtain ⟨g, rfl⟩ : ∃ g, ao = some ⟨g, 0, none⟩ := by
        rcases HO.out.2 with ⟨h1, h2⟩ | ⟨g, c', cur, h1, _⟩
        · omega
        · simp only [Value.slice.injEq] at h1; exact ⟨g, h1.1⟩
      obtain ⟨v, hv, hev⟩ := HL.out.get k _ (List.getElem?_eq_getElem hlt)
      have hc := (HO.out.cellAt k (by omega)).trans hv
      have HS := Lib.hid (any_take_succ l k ch hlt)
      generalize hee : l[k] = ee at *
      have HE := Lib.hid hee
      clear hee hv
      cases hb : ee.has ch with
      | true =>
        have HB := Lib.hid hb
        clear hb
        cases ee with
        | chr c =>
          obtain ⟨p, rfl, hp⟩ := hev
          have hp0 := blk_cell hp 0 _ rfl
          have hcc : (c == ch) = true := HB.out
          go_wp2_with (go_at_call 12; refine (chrM_any ch hp0).mono ?_; rintro e w' ⟨rfl, rfl⟩)
          go_ret
          exact ⟨ret_bool (set_hit hlt HE.out HB.out neg).symm, rfl⟩
        | rng x y =>
          obtain ⟨p, a, b, rfl, hp, hx, hy⟩ := hev
          have HR := Lib.hid (rngM_cc (b := x) (e := y) ch (blk_cell hp 0 _ rfl) (blk_cell hp 1 _ rfl) (blk_cell hx 0 _ rfl) (blk_cell hy 0 _ rfl))
          clear hp hx hy
          have hcc : (decide (x ≤ ch) && decide (ch ≤ y)) = true := HB.out
          go_wp2_with (go_at_call 13; refine HR.out.mono ?_; rintro e w' ⟨rfl, rfl⟩)
          go_ret
          exact ⟨ret_bool (set_hit hlt HE.out HB.out neg).symm, rfl⟩
      | false =>
        have HN' : Hid ((l.take (k + 1)).any (fun e => e.has ch) = false) := Lib.hid (by rw [HS.out, HN.out, hb]; rfl)
        have HB := Lib.hid hb
        clear hb
        cases ee with
        | chr c =>
          obtain ⟨p, rfl, hp⟩ := hev
          have hp0 := blk_cell hp 0 _ rfl
          have hcc : (c == ch) = false := HB.out
          go_wp2_with (go_at_call 12; refine (chrM_any ch hp0).mono ?_; rintro e w' ⟨rfl, rfl⟩)
          go_round
          case rel => exact ⟨k + 1, by omega, by go_num, HN'⟩
          case measure => simp [intOf]; omega
        | rng x y =>
          obtain ⟨p, a, b, rfl, hp, hx, hy⟩ := hev
          have HR := Lib.hid (rngM_cc (b := x) (e := y) ch (blk_cell hp 0 _ rfl) (blk_cell hp 1 _ rfl) (blk_cell hx 0 _ rfl) (blk_cell hy 0 _ rfl))
          clear hp hx hy
          have hcc : (decide (x ≤ ch) && decide (ch ≤ y)) = false := HB.out
          go_wp2_with (go_at_call 13; refine HR.out.mono ?_; rintro e w' ⟨rfl, rfl⟩)
          go_round
          case rel => exact ⟨k + 1, by omega, by go_num, HN'⟩
          case measure => simp [intOf]; omega
    · obtain rfl : k = l.length := by omega
      go_wp2
      go_ret
      refine ⟨ret_bool ?_, rfl⟩
      have := HN.out
      rw [List.take_length] at this
      simp only [setHas, this]; rfl

theorem news_at {W : World} {v : Value} {T : TypeId} {n : Nat} (h : W.heap.size = n) : ∀ (j : Nat) (u : Value), [v][j]? = some u → ((W.alloc (.cells #[v] T)).drew).cell? ((⟨n, 0, none⟩ : Addr).add j) = some u := by
  subst h
  exact fun j u hj => cell_one_new W v T j u hj
def chrs (l : List Int) : List E2 := l.map .chr
def rngs (los his : List Int) : List E2 := (los.zip his).map fun p => .rng p.1 p.2
theorem length_rngs (los his : List Int) : (rngs los his).length = min los.length his.length := by simp [rngs]
theorem chrs_snoc (l : List Int) (k : Nat) (h : k < l.length) : chrs (l.take (k + 1)) = chrs (l.take k) ++ [.chr (l.getD k 0)] := by
  rw [List.take_succ_eq_append_getElem h, chrs, List.map_append, List.getD_eq_getElem?_getD, List.getElem?_eq_getElem h]; rfl
theorem rngs_snoc (los his : List Int) (k : Nat) (h : k < los.length) (h' : k < his.length) : rngs (los.take (k + 1)) (his.take (k + 1)) = rngs (los.take k) (his.take k) ++ [.rng (los.getD k 0) (his.getD k 0)] := by
  rw [List.take_succ_eq_append_getElem h, List.take_succ_eq_append_getElem h', rngs, List.zip_append (by simp; omega), List.map_append, List.getD_eq_getElem?_getD, List.getElem?_eq_getElem h, List.getD_eq_getElem?_getD, List.getElem?_eq_getElem h']; rfl
theorem rngs_all (los his : List Int) (k : Nat) (h : min los.length his.length ≤ k) : rngs (los.take k) (his.take k) = rngs los his := by
  have : ∀ (a b : List Int) (n : Nat), min a.length b.length ≤ n → (a.take n).zip (b.take n) = a.zip b := by
    intro a
    induction a with
    | nil => intro b n _; simp
    | cons x a ih =>
      intro b n hn
      cases b with
      | nil => simp
      | cons y b =>
        cases n with
        | zero => simp at hn
        | succ n => simp only [List.take_succ_cons, List.zip_cons_cons]; rw [ih b n (by simp at hn; omega)]
  rw [rngs, rngs, this _ _ _ h]

theorem RowInt.at {k : IntKind} {w : World} {a : Option Addr} {zs : List Int} (h : RowInt k w a zs) {i : Nat} (hi : i < zs.length) : ∃ b off, a = some ⟨b, off, none⟩ ∧ w.cell? ⟨b, off + i, none⟩ = some (.int k (zs.getD i 0)) := by
  obtain ⟨b, off, h1, h2⟩ := h (by omega)
  exact ⟨b, off, h1, h2 i hi⟩
theorem setB_start (w : World) : SetB (w.alloc (.cells #[] 36)) w.heap.size (some ⟨w.heap.size, 0, none⟩) 0 [] :=
  ⟨[], World.ownsRow_lit (e := 36) (size := 1) w #[] 0 (Nat.le_refl _) (Nat.zero_le _) rfl, .nil⟩
def SetPost (w : World) (neg : Bool) (l : List E2) (ch : Int) (e : Ending) (w' : World) : Prop := e = .returned (.bool (setHas neg l ch)) ∧ Below w.heap.size w w'

set_option maxHeartbeats 4000000 in
set_option maxRecDepth 100000 in
theorem zzSet_any (neg : Bool) (a0 a1 a2 : Option Addr) (cap0 cap1 cap2 : Nat) (cs los his : List Int) (ch : Int) (w : World) (h0 : RowInt .i64 w a0 cs) (h1 : RowInt .i64 w a1 los) (h2 : RowInt .i64 w a2 his)
    (l0 : cs.length ≤ 1048576) (l1 : los.length ≤ 1048576) (l2 : his.length ≤ 1048576) :
    Calls Try.prog 11 #[.bool neg, .slice a0 cs.length cap0, .slice a1 los.length cap1, .slice a2 his.length cap2, .int .i64 ch] w (SetPost w neg (chrs cs ++ rngs los his) ch) := by
  obtain ⟨i0, hi, hz0, hz1, hz2⟩ := info_parts class_info
  have H0 := Lib.hid h0
  have H1 := Lib.hid h1
  have H2 := Lib.hid h2
  have HST := Lib.hid (setB_start w)
  clear h0 h1 h2
  go_enter Try.func11, Try.ntmps11
  go_wp2_with fail
  go_loopw [11, 12] (fun v i wr => ∃ k : Nat, ∃ ao cap, k ≤ cs.length ∧ i = .int .i64 k ∧ v = .slice ao k cap ∧ SetB wr w.heap.size ao cap (chrs (cs.take k)) ∧ Below w.heap.size w wr) (fun _ i _ => cs.length - (intOf i).toNat)
  case atStart => exact ⟨0, _, _, Nat.zero_le _, rfl, rfl, HST.out, (Below.refl _ _).alloc (Nat.le_refl _) _⟩
  case round =>
    obtain ⟨k, ao, cap, hk, rfl, rfl, hs, hb⟩ := hrel
    have HB := Lib.hid hb
    obtain ⟨vs, hown, hels⟩ := hs.own
    have hln : (chrs (cs.take k)).length = k := by simp [chrs]; omega
    rw [hln] at hown
    have HS := Lib.hid hels
    have HOW := Lib.hid hown
    have hsz : w.heap.size ≤ wr.heap.size := hb.size
    have HLN := Lib.hid hln
    clear hb hs hown hels hln
    by_cases hlt : k < cs.length
    · obtain ⟨b, off, rfl, hc⟩ := (H0.out.below HB.out (Nat.le_refl _)).at hlt
      obtain ⟨z, hz⟩ : ∃ z, cs.getD k 0 = z := ⟨_, rfl⟩
      rw [hz] at hc
      have HZ := Lib.hid hz
      have hki : (k : Int) < (cs.length : Int) := by omega
      have HA := Lib.hid ((HOW.out.alloc (.cells #[.int .i64 z] 32)).alloc (.cells #[.iface 30 (.pointer (some ⟨wr.heap.size, 0, none⟩))] 36))
      have hs1 : (wr.alloc (.cells #[.int .i64 z] 32)).heap.size = wr.heap.size + 1 := by simp
      have HN1 := Lib.hid (cell_one_new (wr.alloc (.cells #[.int .i64 z] 32)) (.iface 30 (.pointer (some ⟨wr.heap.size, 0, none⟩))) 36)
      rw [hs1] at HN1
      clear hz hs1
      go_wp2_with (at_builtin; refine wpList_push _ rfl (.tmp 21) (.tmp 29) 39 rfl w.heap.size 36 i0 .nilIface 1 16 Try.underlying39 hi hz0 hz1 hz2 rfl (by decide) _ _ _ _ rfl HA.out ⟨wr.heap.size + 1, 0, none⟩ 1 1 [.iface 30 (.pointer (some ⟨wr.heap.size, 0, none⟩))] rfl rfl HN1.out (fun u hu => by simp at hu; subst hu; rfl) (by decide) (by unfold maxLen; omega) (by omega) (by simp; omega) ?_; intro g1 c1 w3 hown' hgrow hwhere; have HO' := Lib.hid hown'; have HGw := Lib.hid hgrow; clear hown' hgrow hwhere)
      go_roundw
      case rel =>
        refine ⟨k + 1, some ⟨g1, 0, none⟩, c1, by omega, by go_num, rfl, ?_, ?_⟩
        · rw [chrs_snoc cs k hlt, HZ.out]
          have hA := HA.out
          have hO := HO'.out
          rw [← HLN.out] at hA hO
          exact SetB.push (w := wr) (e := .chr z) hA ((keep_alloc _ _).trans (keep_alloc _ _)) HS.out ⟨wr.heap.size, rfl, blk_alloc (blk_new _ _) _⟩ HGw.out hO
        · exact below_push ((HB.out.alloc hsz _).alloc (by simp; omega) _) HGw.out (fun g hg => (own_block HOW.out g hg).1) (by simp; omega)
      case measure => simp [intOf]; omega
    · obtain rfl : k = cs.length := by omega
      have HB1 := Lib.hid HB.out
      have HOW1 := Lib.hid HOW.out
      have HS1 := Lib.hid HS.out
      have hl0 : chrs (cs.take cs.length) = chrs cs := by rw [List.take_length]
      have HSB1 : Hid (SetB wr w.heap.size ao cap (chrs cs)) := Lib.hid ⟨vs, by rw [← hl0, HLN.out]; exact HOW.out, by rw [← hl0]; exact HS.out⟩
      clear HOW1 HS1 HB HS HOW HLN hl0
      generalize hwo : wr = wo at *
      clear hwo
      go_wp2_with fail
      go_loopw [11, 13] (fun v i wr => ∃ k : Nat, ∃ ao cap, k ≤ min los.length his.length ∧ i = .int .i64 k ∧ v = .slice ao (cs.length + k) cap ∧ SetB wr w.heap.size ao cap (chrs cs ++ rngs (los.take k) (his.take k)) ∧ Below w.heap.size w wr) (fun _ i _ => min los.length his.length - (intOf i).toNat)
      case atStart => exact ⟨0, _, _, Nat.zero_le _, rfl, rfl, by simpa [rngs] using HSB1.out, HB1.out⟩
      case round =>
        obtain ⟨k, ao, cap, hk, rfl, rfl, hs, hb⟩ := hrel
        have HB := Lib.hid hb
        obtain ⟨vs, hown, hels⟩ := hs.own
        have hln : (chrs cs ++ rngs (los.take k) (his.take k)).length = cs.length + k := by rw [List.length_append, length_rngs]; simp [chrs]; omega
        rw [hln] at hown
        have HS := Lib.hid hels
        have HOW := Lib.hid hown
        have hsz : w.heap.size ≤ wr.heap.size := hb.size
        have HLN := Lib.hid hln
        have HSB := Lib.hid hs
        clear hb hs hown hels hln HB1 HSB1
        by_cases hlt : k < los.length ∧ k < his.length
        · obtain ⟨hlt1, hlt2⟩ := hlt
          obtain ⟨b, off, rfl, hc⟩ := (H1.out.below HB.out (Nat.le_refl _)).at hlt1
          obtain ⟨b', off', rfl, hc'⟩ := (H2.out.below HB.out (Nat.le_refl _)).at hlt2
          obtain ⟨y, hy⟩ : ∃ y, los.getD k 0 = y := ⟨_, rfl⟩
          obtain ⟨z, hz⟩ : ∃ z, his.getD k 0 = z := ⟨_, rfl⟩
          rw [hy] at hc
          rw [hz] at hc'
          have HY := Lib.hid hy
          have HZ := Lib.hid hz
          have ki1 : (k : Int) < (los.length : Int) := by omega
          have ki2 : (k : Int) < (his.length : Int) := by omega
          have HL1 := Lib.hid hlt1
          have HL2 := Lib.hid hlt2
          clear hy hz hlt1 hlt2
          have hc3 : (wr.alloc (.cells #[.int .i64 y] 32)).cell? ⟨b', off' + k, none⟩ = some (.int .i64 z) := (((Below.refl _ wr).alloc (Nat.le_refl _) _).cell (p := ⟨b', off' + k, none⟩) (lt_of_cell hc')).trans hc'
          have hc4 : (wr.alloc (.cells #[.int .i64 z] 32)).cell? ⟨b, off + k, none⟩ = some (.int .i64 y) := (((Below.refl _ wr).alloc (Nat.le_refl _) _).cell (p := ⟨b, off + k, none⟩) (lt_of_cell hc)).trans hc
          go_wp2_with fail
          go_region_law ((refine step_append_lies _ (by rfl) _ _ _ (by rfl) w.heap.size 36 i0 _ 1 16 Try.underlying39 hi hz0 hz1 hz2 rfl (by omega) (.slice ao (cs.length + k) cap) (cs.length + k) vs (by rfl) ((((HOW.out.alloc _).alloc _).alloc _).alloc _) ⟨wr.heap.size + 3, 0, none⟩ 1 1 [.iface 34 (.pointer (some ⟨wr.heap.size + 2, 0, none⟩))] (by rfl) (by rfl) (news_at (by simp)) (by simp [Value.oneCell']) (by omega) (by unfold maxLen; omega) (by omega) (by simp; omega) (wr.heap.size + 4) (by simp) ?_; intro g1 c1 w3 hown hgrow hat hlt3; have HOw := Lib.hid hown; have HGw := Lib.hid hgrow; clear hown hgrow hat hlt3))
          all_goals
            go_wp2_with fail
            go_roundw
            case rel =>
              refine ⟨k + 1, some ⟨g1, 0, none⟩, c1, by have := HL1.out; have := HL2.out; omega, by go_num, rfl, ?_, ?_⟩
              · rw [rngs_snoc los his k HL1.out HL2.out, HY.out, HZ.out, ← List.append_assoc]
                first
                | exact rng_push HLN.out ((((HOW.out.alloc _).alloc _).alloc _).alloc _) (((keep_alloc _ _).trans (keep_alloc _ _)).trans ((keep_alloc _ _).trans (keep_alloc _ _))) HS.out (rngAt1 _ _ _ _) HGw.out HOw.out
                | exact rng_push HLN.out ((((HOW.out.alloc _).alloc _).alloc _).alloc _) (((keep_alloc _ _).trans (keep_alloc _ _)).trans ((keep_alloc _ _).trans (keep_alloc _ _))) HS.out (rngAt2 _ _ _ _) HGw.out HOw.out
              · have hgw := HGw.out
                rw [ownBlock_slice] at hgw
                exact below_push (below_drewN ((((HB.out.alloc hsz _).alloc (by simp; omega) _).alloc (by simp; omega) _).alloc (by simp; omega) _) 1) hgw (fun g hg => (own_block HOW.out g hg).1) (by simp; omega)
            case measure => simp [intOf]; have := HL1.out; have := HL2.out; omega
        · have hkk : k = min los.length his.length := by omega
          have HKK := Lib.hid hkk
          have HAL := Lib.hid (rngs_all los his k (by omega))
          have HSM : Hid (SetB wr w.heap.size ao cap (chrs cs ++ rngs los his)) := by rw [← HAL.out]; exact HSB
          have hln2 : (chrs cs ++ rngs los his).length = cs.length + k := by rw [← HAL.out]; exact HLN.out
          have HLN2 := Lib.hid hln2
          have hm : (wr.alloc (.cells #[.bool neg, .slice ao (cs.length + k) cap] 42)).heap[wr.heap.size]? = some (.cells #[.bool neg, .slice ao (chrs cs ++ rngs los his).length cap] 42 (0, 0)) := by rw [hln2]; exact blk_new _ _
          have HM := Lib.hid hm
          clear hkk hln2 hm
          have hways : (decide (k < los.length) = false) ∨ (decide (k < los.length) = true ∧ decide (k < his.length) = false) := by
            by_cases h : k < los.length
            · exact .inr ⟨decide_eq_true h, decide_eq_false (by omega)⟩
            · exact .inl (decide_eq_false h)
          have HW := Lib.hid hways
          clear hways hlt
          obtain ⟨us, hou, hes⟩ := HSM.out.own
          have hou2 := owns_base (hou.alloc (.cells #[.bool neg, .slice ao (cs.length + k) cap] 42)) (Nat.zero_le _)
          have HO2 := Lib.hid hou2
          have HE2 := Lib.hid (hes.kept (keep_alloc wr (.cells #[.bool neg, .slice ao (cs.length + k) cap] 42)))
          have HBE := Lib.hid (HB.out.alloc hsz (.cells #[.bool neg, .slice ao (cs.length + k) cap] 42))
          clear hou hes hou2
          rcases HW.out with t1 | ⟨t1, t2⟩
          all_goals
            go_wp2_with fail
            refine (setM_any ch HM.out HO2.out HE2.out (by have := HLN2.out; omega)).mono ?_
            rintro e w' ⟨rfl, rfl⟩
            go_wp2_with fail
            go_ret
            exact ⟨rfl, HBE.out⟩

end Go.Proofs.Ytkpnjhnopgbhlaa
