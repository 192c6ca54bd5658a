/-
  The contracts of the pattern scanner's methods: newScanner, Length, Next, NextPos, Peek, CurrentPos, Save, Restore, over a scanner whose state is a cursor c from 0 (fresh) to one past the length (at the end). Their condition: the scanner lies in a block of its own, apart from its source.
-/
import Derived.Test.YtcfhhcjcnafcjaaFmtMem
namespace Go.Proofs.YtcfhhcjcnafcjaaFmt
open Go.RowKit
set_option linter.unusedVariables false
set_option linter.unusedSimpArgs false

/-- The position that a scanner over n bytes shows behind c bytes. -/
def posOf (n c : Nat) : Int := if c = 0 then 0 else if c ≤ n then (c : Int) - 1 else -1
/-- The byte at place c, or -1 past the end. -/
def chr (zs : List Int) (c : Nat) : Int := if c < zs.length then zs.getD c 0 else -1
/-- What NextPos answers. -/
def nposOf (n c : Nat) : Int := if c < n ∧ ¬ (c = 0 ∧ n = 1) then (c : Int) else -1

/-- A scanner at block b over the bytes zs, c of them handed out, the saved state at s. -/
structure Scan (w : World) (b : Nat) (ao : Option Addr) (cap : Nat) (zs : List Int) (c s : Nat) : Prop where
  blk : w.heap[b]? = some (.cells #[.slice ao zs.length cap, .int .i64 (posOf zs.length c), .bool (decide (0 < c)), .int .i64 (posOf zs.length s), .bool (decide (0 < s))] 118 (0, 0))
  src : 0 < zs.length → ∃ sb so, ao = some ⟨sb, so, none⟩ ∧ sb ≠ b ∧ ∀ i, i < zs.length → w.cell? ⟨sb, so + i, none⟩ = some (.int .u8 (zs.getD i 0))
  cb : c ≤ zs.length + 1
  sb : s ≤ zs.length + 1
  len : zs.length ≤ 140737488355328
  byte : ∀ z, z ∈ zs → 0 ≤ z ∧ z ≤ 255

theorem getD_byte {zs : List Int} (h : ∀ z, z ∈ zs → 0 ≤ z ∧ z ≤ 255) (i : Nat) : 0 ≤ zs.getD i 0 ∧ zs.getD i 0 ≤ 255 := by
  rcases Nat.lt_or_ge i zs.length with hi | hi
  · rw [List.getD_eq_getElem?_getD, List.getElem?_eq_getElem hi]; exact h _ (List.getElem_mem hi)
  · rw [List.getD_eq_getElem?_getD, List.getElem?_eq_none hi]; simp

/-- What a step does: the scanner's block alone is written. -/
theorem Scan.step {w w' : World} {b : Nat} {ao : Option Addr} {cap : Nat} {zs : List Int} {c s c' s' : Nat} (h : Scan w b ao cap zs c s) (hg : w.grownBy w' (some b)) (hc : c' ≤ zs.length + 1) (hs : s' ≤ zs.length + 1)
    (hb : w'.heap[b]? = some (.cells #[.slice ao zs.length cap, .int .i64 (posOf zs.length c'), .bool (decide (0 < c')), .int .i64 (posOf zs.length s'), .bool (decide (0 < s'))] 118 (0, 0))) : Scan w' b ao cap zs c' s' := by
  refine ⟨hb, fun h0 => ?_, hc, hs, h.len, h.byte⟩
  obtain ⟨x, y, h1, h2, h3⟩ := h.src h0
  exact ⟨x, y, h1, h2, fun i hi => cell_one hg (h3 i hi) h2⟩

theorem Scan.step' {w w' : World} {b : Nat} {ao : Option Addr} {cap : Nat} {zs : List Int} {c s c' : Nat} (h : Scan w b ao cap zs c s) (hg : w.grownBy w' (some b)) (hc : c' ≤ zs.length + 1) {P' : Int} {st' : Bool} (hP : posOf zs.length c' = P') (hst : decide (0 < c') = st')
    (hb : w'.heap[b]? = some (.cells #[.slice ao zs.length cap, .int .i64 P', .bool st', .int .i64 (posOf zs.length s), .bool (decide (0 < s))] 118 (0, 0))) : Scan w' b ao cap zs c' s := by
  subst hP hst; exact h.step hg hc h.sb hb

/-- What is written elsewhere leaves it as it is. -/
theorem Scan.kept {w w' : World} {b : Nat} {ao : Option Addr} {cap : Nat} {zs : List Int} {c s : Nat} {row : Option Nat} (h : Scan w b ao cap zs c s) (hg : w.grownBy w' row) (hb : some b ≠ row) (hs : ∀ x, ao = some x → some x.block ≠ row) : Scan w' b ao cap zs c s := by
  refine ⟨blk_grown h.blk hg hb, fun h0 => ?_, h.cb, h.sb, h.len, h.byte⟩
  obtain ⟨x, y, h1, h2, h3⟩ := h.src h0
  exact ⟨x, y, h1, h2, fun i hi => hg.cell (h3 i hi) (hs ⟨x, y, none⟩ h1)⟩

section
variable {w : World} {b : Nat} {ao : Option Addr} {cap : Nat} {zs : List Int} {c s : Nat}

/-- NextPos over the raw cells, each test decided ahead. -/
theorem npos_raw {n : Nat} {P R : Int} {st x y : Bool} (g0 : w.cell? ⟨b, 0, none⟩ = some (.slice ao n cap)) (g1 : w.cell? ⟨b, 1, none⟩ = some (.int .i64 P)) (g2 : w.cell? ⟨b, 2, none⟩ = some (.bool st))
    (hn : n ≤ 140737488355328) (hP : -1 ≤ P) (hP' : P ≤ n) (hx : (P == -1) = x) (hy : decide ((n : Int) - 1 ≤ P) = y) (hR : R = if x || y then -1 else if st then P + 1 else 0) :
    Calls Tryf.prog 31 #[.pointer (some ⟨b, 0, none⟩)] w fun e w' => e = .returned (.int .i64 R) ∧ ∃ n, w' = w.drewN n := by
  subst hR
  cases x
  all_goals
    cases y
    all_goals
      cases st
      all_goals
        go_enter Tryf.func31, Tryf.ntmps31
        go_wp2
        go_quiet (fail)
        go_wp2
        go_ret
        exact ⟨rfl, _, rfl⟩

theorem npos_any (h : Scan w b ao cap zs c s) :
    Calls Tryf.prog 31 #[.pointer (some ⟨b, 0, none⟩)] w fun e w' => e = .returned (.int .i64 (nposOf zs.length c)) ∧ ∃ n, w' = w.drewN n := by
  obtain ⟨hblk, hsrc, hcb, hsb, hlen, hbyte⟩ := h
  refine npos_raw (P := posOf zs.length c) (blk_cell hblk 0 _ rfl) (blk_cell hblk 1 _ rfl) (blk_cell hblk 2 _ rfl) hlen (by unfold posOf; split <;> (try split) <;> omega) (by unfold posOf; split <;> (try split) <;> omega) rfl rfl ?_
  rcases (show (c = 0 ∧ zs.length ≤ 1) ∨ (c = 0 ∧ 1 < zs.length) ∨ (0 < c ∧ c < zs.length) ∨ (0 < c ∧ c = zs.length) ∨ c = zs.length + 1 by omega) with ⟨h1, h2⟩ | ⟨h1, h2⟩ | ⟨h1, h2⟩ | ⟨h1, h2⟩ | h2
  · have e1 : nposOf zs.length c = -1 := by unfold nposOf; rw [if_neg (by omega)]
    have e2 : posOf zs.length c = 0 := by unfold posOf; rw [if_pos h1]
    rw [e1, e2, if_pos (by simp; omega)]
  · have e1 : nposOf zs.length c = 0 := by unfold nposOf; rw [if_pos (by omega)]; omega
    have e2 : posOf zs.length c = 0 := by unfold posOf; rw [if_pos h1]
    rw [e1, e2, if_neg (by simp; omega), if_neg (by simp; omega)]
  · have e1 : nposOf zs.length c = c := by unfold nposOf; rw [if_pos (by omega)]
    have e2 : posOf zs.length c = c - 1 := by unfold posOf; rw [if_neg (by omega), if_pos (by omega)]
    rw [e1, e2, if_neg (by simp; omega), if_pos (by simp; omega)]; omega
  · have e1 : nposOf zs.length c = -1 := by unfold nposOf; rw [if_neg (by omega)]
    have e2 : posOf zs.length c = c - 1 := by unfold posOf; rw [if_neg (by omega), if_pos (by omega)]
    rw [e1, e2, if_pos (by simp; omega)]
  · have e1 : nposOf zs.length c = -1 := by unfold nposOf; rw [if_neg (by omega)]
    have e2 : posOf zs.length c = -1 := by unfold posOf; rw [if_neg (by omega), if_neg (by omega)]
    rw [e1, e2, if_pos (by simp)]

/-- Next over the raw cells. One theorem a way. -/
theorem next_fresh0 {cap : Nat} (g0 : w.cell? ⟨b, 0, none⟩ = some (.slice ao 0 cap)) (g1 : w.cell? ⟨b, 1, none⟩ = some (.int .i64 0)) (g2 : w.cell? ⟨b, 2, none⟩ = some (.bool false)) (f1 : w.frozen? ⟨b, 1, none⟩ = false) (f2 : w.frozen? ⟨b, 2, none⟩ = false) :
    Calls Tryf.prog 25 #[.pointer (some ⟨b, 0, none⟩)] w fun e w' => e = .returned (.int .i64 (-1)) ∧ (w.setCell ⟨b, 2, none⟩ (.bool true)).setCell ⟨b, 1, none⟩ (.int .i64 (-1)) = w' := by
  go_enter Tryf.func25, Tryf.ntmps25
  go_wp2_with fail
  go_ret
  exact ⟨rfl, rfl⟩

theorem next_fresh {n cap sb so : Nat} {z : Int} (hn : 0 < n) (hz : 0 ≤ z ∧ z ≤ 255) (g0 : w.cell? ⟨b, 0, none⟩ = some (.slice (some ⟨sb, so, none⟩) n cap)) (g1 : w.cell? ⟨b, 1, none⟩ = some (.int .i64 0)) (g2 : w.cell? ⟨b, 2, none⟩ = some (.bool false)) (f1 : w.frozen? ⟨b, 1, none⟩ = false) (f2 : w.frozen? ⟨b, 2, none⟩ = false)
    (hne : sb ≠ b) (hc : w.cell? ⟨sb, so, none⟩ = some (.int .u8 z)) :
    Calls Tryf.prog 25 #[.pointer (some ⟨b, 0, none⟩)] w fun e w' => e = .returned (.int .i64 z) ∧ ∃ k, w' = (w.setCell ⟨b, 2, none⟩ (.bool true)).drewN k := by
  have hn' : ((n : Int) == 0) = false := by simp; omega
  have hz1 := hz.1
  have hz2 := hz.2
  clear hz
  go_enter Tryf.func25, Tryf.ntmps25
  go_wp2_with fail
  go_quiet (fail)
  go_wp2
  go_ret
  exact ⟨rfl, _, rfl⟩

theorem next_on {n cap sb so c : Nat} {P z : Int} (hlt : c < n) (hnb : n ≤ 140737488355328) (hz : 0 ≤ z ∧ z ≤ 255) (g0 : w.cell? ⟨b, 0, none⟩ = some (.slice (some ⟨sb, so, none⟩) n cap)) (g1 : w.cell? ⟨b, 1, none⟩ = some (.int .i64 P)) (g2 : w.cell? ⟨b, 2, none⟩ = some (.bool true)) (f1 : w.frozen? ⟨b, 1, none⟩ = false)
    (hne : sb ≠ b) (hc : w.cell? ⟨sb, so + c, none⟩ = some (.int .u8 z)) (hN : Calls Tryf.prog 31 #[.pointer (some ⟨b, 0, none⟩)] w fun e w' => e = .returned (.int .i64 (c : Int)) ∧ ∃ n, w' = w.drewN n) :
    Calls Tryf.prog 25 #[.pointer (some ⟨b, 0, none⟩)] w fun e w' => e = .returned (.int .i64 z) ∧ ∃ j k, w' = ((w.drewN j).setCell ⟨b, 1, none⟩ (.int .i64 (c : Int))).drewN k := by
  have hz1 := hz.1
  have hz2 := hz.2
  have hm : ((c : Int) == -1) = false := by simp
  clear hz
  go_enter Tryf.func25, Tryf.ntmps25
  go_wp2_with (go_at_call 31; refine hN.mono ?_; rintro e w' ⟨rfl, k, rfl⟩)
  go_quiet (fail)
  go_wp2
  go_ret
  exact ⟨rfl, _, _, rfl⟩

theorem next_end {n cap : Nat} {P : Int} (g0 : w.cell? ⟨b, 0, none⟩ = some (.slice ao n cap)) (g1 : w.cell? ⟨b, 1, none⟩ = some (.int .i64 P)) (g2 : w.cell? ⟨b, 2, none⟩ = some (.bool true)) (f1 : w.frozen? ⟨b, 1, none⟩ = false)
    (hN : Calls Tryf.prog 31 #[.pointer (some ⟨b, 0, none⟩)] w fun e w' => e = .returned (.int .i64 (-1)) ∧ ∃ n, w' = w.drewN n) :
    Calls Tryf.prog 25 #[.pointer (some ⟨b, 0, none⟩)] w fun e w' => e = .returned (.int .i64 (-1)) ∧ ∃ j, w' = (w.drewN j).setCell ⟨b, 1, none⟩ (.int .i64 (-1)) := by
  go_enter Tryf.func25, Tryf.ntmps25
  go_wp2_with (go_at_call 31; refine hN.mono ?_; rintro e w' ⟨rfl, k, rfl⟩)
  go_ret
  exact ⟨rfl, _, rfl⟩

theorem next_any (h : Scan w b ao cap zs c s) :
    Calls Tryf.prog 25 #[.pointer (some ⟨b, 0, none⟩)] w fun e w' => e = .returned (.int .i64 (chr zs c)) ∧ Scan w' b ao cap zs (min (c + 1) (zs.length + 1)) s ∧ w.grownBy w' (some b) := by
  have hN := npos_any h
  have h' := h
  obtain ⟨hblk, hsrc, hcb, hsb, hlen, hbyte⟩ := h
  have g0 : w.cell? ⟨b, 0, none⟩ = some (.slice ao zs.length cap) := blk_cell hblk 0 _ rfl
  have g1 : w.cell? ⟨b, 1, none⟩ = some (.int .i64 (posOf zs.length c)) := blk_cell hblk 1 _ rfl
  have g2 : w.cell? ⟨b, 2, none⟩ = some (.bool (decide (0 < c))) := blk_cell hblk 2 _ rfl
  have f1 := blk_free hblk 1
  have f2 := blk_free hblk 2
  rcases (show (c = 0 ∧ zs.length = 0) ∨ (c = 0 ∧ 0 < zs.length) ∨ (0 < c ∧ c < zs.length) ∨ (0 < c ∧ c = zs.length) ∨ c = zs.length + 1 by omega) with ⟨h1, h2⟩ | ⟨h1, h2⟩ | ⟨h1, h2⟩ | ⟨h1, h2⟩ | h2
  · subst h1
    rw [h2] at g0
    refine (next_fresh0 g0 g1 g2 f1 f2).mono ?_
    rintro e w' ⟨rfl, rfl⟩
    have hg := one_setCell (one_setCell (one_refl w (some b)) (p := ⟨b, 2, none⟩) (.inl rfl) (.bool true)) (p := ⟨b, 1, none⟩) (.inl rfl) (.int .i64 (-1))
    exact ⟨ret_int (by unfold chr; rw [if_neg (by omega)]), h'.step' hg (by omega) (P' := -1) (by unfold posOf; rw [if_neg (by omega), if_neg (by omega)]) (by simp) (blk_set (blk_set hblk 2 _) 1 _), hg⟩
  · subst h1
    obtain ⟨sb, so, rfl, hne, hcell⟩ := hsrc h2
    refine (next_fresh h2 (getD_byte hbyte 0) g0 g1 g2 f1 f2 hne (hcell 0 h2)).mono ?_
    rintro e w' ⟨rfl, k, rfl⟩
    have hg := one_drewN (one_setCell (one_refl w (some b)) (p := ⟨b, 2, none⟩) (.inl rfl) (.bool true)) k
    exact ⟨ret_int (by unfold chr; rw [if_pos h2]), h'.step' hg (by omega) (P' := 0) (by unfold posOf; rw [if_neg (by omega), if_pos (by omega)]; omega) (by simp) (blk_drewN (blk_set hblk 2 _) k), hg⟩
  · obtain ⟨sb, so, rfl, hne, hcell⟩ := hsrc (by omega)
    have e1 : nposOf zs.length c = c := by unfold nposOf; rw [if_pos (by omega)]
    rw [e1] at hN
    have e2 : decide (0 < c) = true := by simp; omega
    rw [e2] at g2 hblk
    refine (next_on h2 hlen (getD_byte hbyte c) g0 g1 g2 f1 hne (hcell c h2) hN).mono ?_
    rintro e w' ⟨rfl, j, k, rfl⟩
    have hg := one_drewN (one_setCell (one_drewN (one_refl w (some b)) j) (p := ⟨b, 1, none⟩) (.inl rfl) (.int .i64 (c : Int))) k
    exact ⟨ret_int (by unfold chr; rw [if_pos h2]), h'.step' hg (by omega) (P' := c) (by unfold posOf; rw [if_neg (by omega), if_pos (by omega)]; omega) (by simp) (blk_drewN (blk_set (blk_drewN hblk j) 1 _) k), hg⟩
  all_goals
    have e1 : nposOf zs.length c = -1 := by unfold nposOf; rw [if_neg (by omega)]
    rw [e1] at hN
    have e2 : decide (0 < c) = true := by simp; omega
    rw [e2] at g2 hblk
    refine (next_end g0 g1 g2 f1 hN).mono ?_
    rintro e w' ⟨rfl, k, rfl⟩
    have hg := one_setCell (one_drewN (one_refl w (some b)) k) (p := ⟨b, 1, none⟩) (.inl rfl) (.int .i64 (-1))
    exact ⟨ret_int (by unfold chr; rw [if_neg (by omega)]), h'.step' hg (by omega) (P' := -1) (by unfold posOf; rw [if_neg (by omega), if_neg (by omega)]) (by simp) (blk_set (blk_drewN hblk k) 1 _), hg⟩

/-- Where Peek leaves the cursor: where it was, but over an empty source. -/
def peekC (n c : Nat) : Nat := if n = 0 ∧ c = 0 then 1 else c

theorem posOf_peek {n c : Nat} (h1 : c ≤ n) (h2 : n ≤ c) : posOf n (peekC n c) = (n : Int) - 1 := by
  unfold peekC
  split
  · rename_i h
    unfold posOf
    rw [if_neg (by omega), if_neg (by omega)]; omega
  · rename_i h
    unfold posOf
    rw [if_neg (by omega), if_pos (by omega)]; omega

theorem next_told (h : Scan w b ao cap zs c s) {P1 : Int} (hp : posOf zs.length (min (c + 1) (zs.length + 1)) = P1) :
    Calls Tryf.prog 25 #[.pointer (some ⟨b, 0, none⟩)] w fun e w1 => e = .returned (.int .i64 (chr zs c)) ∧ Hid (Scan w1 b ao cap zs (min (c + 1) (zs.length + 1)) s ∧ w.grownBy w1 (some b)) ∧
      w1.cell? ⟨b, 0, none⟩ = some (.slice ao zs.length cap) ∧ w1.cell? ⟨b, 1, none⟩ = some (.int .i64 P1) ∧ w1.cell? ⟨b, 2, none⟩ = some (.bool true) ∧ w1.frozen? ⟨b, 1, none⟩ = false ∧ w1.frozen? ⟨b, 2, none⟩ = false := by
  subst hp
  exact (next_any h).mono fun e w1 ⟨h1, h2, h3⟩ => ⟨h1, ⟨h2, h3⟩, blk_cell h2.blk 0 _ rfl, blk_cell h2.blk 1 _ rfl, (blk_cell h2.blk 2 _ rfl).trans (congrArg (fun x => some (Value.bool x)) (by simp)), blk_free h2.blk 1, blk_free h2.blk 2⟩

section
variable {V : Int} {R : World → Prop} {n : Nat}
theorem peek_w1 (hN : Calls Tryf.prog 25 #[.pointer (some ⟨b, 0, none⟩)] w fun e w1 => e = .returned (.int .i64 V) ∧ Hid (R w1) ∧ w1.cell? ⟨b, 0, none⟩ = some (.slice ao n cap) ∧ w1.cell? ⟨b, 1, none⟩ = some (.int .i64 (-1)) ∧ w1.cell? ⟨b, 2, none⟩ = some (.bool true) ∧ w1.frozen? ⟨b, 1, none⟩ = false ∧ w1.frozen? ⟨b, 2, none⟩ = false) (p1 : w.cell? ⟨b, 1, none⟩ = some (.int .i64 (-1))) :
    Calls Tryf.prog 24 #[.pointer (some ⟨b, 0, none⟩)] w fun e w' => e = .returned (.int .i64 V) ∧ Hid (R w') := by
  go_enter Tryf.func24, Tryf.ntmps24
  go_wp2_with (go_at_call 25; refine hN.mono ?_; rintro e w1 ⟨rfl, hs1, k0, k1, k2, f1, f2⟩)
  go_ret
  exact ⟨rfl, hs1⟩
theorem peek_w2 {P0 : Int} (hn : n ≤ 140737488355328) (hN : Calls Tryf.prog 25 #[.pointer (some ⟨b, 0, none⟩)] w fun e w1 => e = .returned (.int .i64 V) ∧ Hid (R w1) ∧ w1.cell? ⟨b, 0, none⟩ = some (.slice ao n cap) ∧ w1.cell? ⟨b, 1, none⟩ = some (.int .i64 (-1)) ∧ w1.cell? ⟨b, 2, none⟩ = some (.bool true) ∧ w1.frozen? ⟨b, 1, none⟩ = false ∧ w1.frozen? ⟨b, 2, none⟩ = false) (p1 : w.cell? ⟨b, 1, none⟩ = some (.int .i64 P0)) (hP : (P0 == -1) = false) :
    Calls Tryf.prog 24 #[.pointer (some ⟨b, 0, none⟩)] w fun e w' => e = .returned (.int .i64 V) ∧ ∃ w1, Hid (R w1) ∧ w1.setCell ⟨b, 1, none⟩ (.int .i64 ((n : Int) - 1)) = w' := by
  go_enter Tryf.func24, Tryf.ntmps24
  go_wp2_with (go_at_call 25; refine hN.mono ?_; rintro e w1 ⟨rfl, hs1, k0, k1, k2, f1, f2⟩)
  go_ret
  exact ⟨rfl, _, hs1, rfl⟩
theorem peek_w3 {P0 P1 : Int} (hb1 : 1 ≤ P1) (hb2 : P1 ≤ 140737488355328) (hN : Calls Tryf.prog 25 #[.pointer (some ⟨b, 0, none⟩)] w fun e w1 => e = .returned (.int .i64 V) ∧ Hid (R w1) ∧ w1.cell? ⟨b, 0, none⟩ = some (.slice ao n cap) ∧ w1.cell? ⟨b, 1, none⟩ = some (.int .i64 P1) ∧ w1.cell? ⟨b, 2, none⟩ = some (.bool true) ∧ w1.frozen? ⟨b, 1, none⟩ = false ∧ w1.frozen? ⟨b, 2, none⟩ = false) (p1 : w.cell? ⟨b, 1, none⟩ = some (.int .i64 P0)) (hP : (P0 == -1) = false) (hP1 : (P1 == -1) = false) :
    Calls Tryf.prog 24 #[.pointer (some ⟨b, 0, none⟩)] w fun e w' => e = .returned (.int .i64 V) ∧ ∃ w1, Hid (R w1) ∧ w1.setCell ⟨b, 1, none⟩ (.int .i64 (P1 - 1)) = w' := by
  go_enter Tryf.func24, Tryf.ntmps24
  go_wp2_with (go_at_call 25; refine hN.mono ?_; rintro e w1 ⟨rfl, hs1, k0, k1, k2, f1, f2⟩)
  go_ret
  exact ⟨rfl, _, hs1, rfl⟩
theorem peek_w4 {P0 : Int} (hN : Calls Tryf.prog 25 #[.pointer (some ⟨b, 0, none⟩)] w fun e w1 => e = .returned (.int .i64 V) ∧ Hid (R w1) ∧ w1.cell? ⟨b, 0, none⟩ = some (.slice ao n cap) ∧ w1.cell? ⟨b, 1, none⟩ = some (.int .i64 0) ∧ w1.cell? ⟨b, 2, none⟩ = some (.bool true) ∧ w1.frozen? ⟨b, 1, none⟩ = false ∧ w1.frozen? ⟨b, 2, none⟩ = false) (p1 : w.cell? ⟨b, 1, none⟩ = some (.int .i64 P0)) (hP : (P0 == -1) = false) :
    Calls Tryf.prog 24 #[.pointer (some ⟨b, 0, none⟩)] w fun e w' => e = .returned (.int .i64 V) ∧ ∃ w1, Hid (R w1) ∧ ((w1.setCell ⟨b, 1, none⟩ (.int .i64 (-1))).setCell ⟨b, 1, none⟩ (.int .i64 0)).setCell ⟨b, 2, none⟩ (.bool false) = w' := by
  go_enter Tryf.func24, Tryf.ntmps24
  go_wp2_with (go_at_call 25; refine hN.mono ?_; rintro e w1 ⟨rfl, hs1, k0, k1, k2, f1, f2⟩)
  go_ret
  exact ⟨rfl, _, hs1, rfl⟩
end

theorem peek_any (h : Scan w b ao cap zs c s) :
    Calls Tryf.prog 24 #[.pointer (some ⟨b, 0, none⟩)] w fun e w' => e = .returned (.int .i64 (chr zs c)) ∧ Scan w' b ao cap zs (peekC zs.length c) s ∧ w.grownBy w' (some b) := by
  have p1 : w.cell? ⟨b, 1, none⟩ = some (.int .i64 (posOf zs.length c)) := blk_cell h.blk 1 _ rfl
  have hcb := h.cb
  have hlen := h.len
  rcases (show (c ≤ zs.length ∧ zs.length ≤ c) ∨ (c = 0 ∧ 0 < zs.length) ∨ (0 < c ∧ c < zs.length) ∨ (0 < c ∧ c = zs.length + 1) by omega) with ⟨h1, h2⟩ | ⟨h1, h2⟩ | ⟨h1, h2⟩ | ⟨h1, h2⟩
  · have hN := next_told h (P1 := -1) (by unfold posOf; rw [if_neg (by omega), if_neg (by omega)])
    refine (peek_w2 hlen hN p1 (by unfold posOf; split <;> (try split) <;> simp <;> omega)).mono ?_
    rintro e w' ⟨rfl, w1, ⟨hs1, hg1⟩, rfl⟩
    have hg := one_setCell (one_refl w1 (some b)) (p := ⟨b, 1, none⟩) (.inl rfl) (.int .i64 ((zs.length : Int) - 1))
    have hc : 0 < peekC zs.length c := by unfold peekC; split <;> omega
    exact ⟨rfl, hs1.step' hg (by unfold peekC; split <;> omega) (P' := (zs.length : Int) - 1) (posOf_peek h1 h2) (by simp; omega) (blk_set hs1.blk 1 _), one_trans hg1 hg⟩
  · have hN := next_told h (P1 := 0) (by unfold posOf; rw [if_neg (by omega), if_pos (by omega)]; omega)
    refine (peek_w4 hN p1 (by unfold posOf; rw [if_pos h1]; rfl)).mono ?_
    rintro e w' ⟨rfl, w1, ⟨hs1, hg1⟩, rfl⟩
    have hg := one_setCell (one_setCell (one_setCell (one_refl w1 (some b)) (p := ⟨b, 1, none⟩) (.inl rfl) (.int .i64 (-1))) (p := ⟨b, 1, none⟩) (.inl rfl) (.int .i64 0)) (p := ⟨b, 2, none⟩) (.inl rfl) (.bool false)
    have e2 : peekC zs.length c = 0 := by unfold peekC; rw [if_neg (by omega)]; exact h1
    rw [e2]
    exact ⟨rfl, hs1.step' hg (by omega) (P' := 0) (by unfold posOf; rw [if_pos rfl]) (by simp) (blk_set (blk_set (blk_set hs1.blk 1 _) 1 _) 2 _), one_trans hg1 hg⟩
  · have hN := next_told h (P1 := c) (by unfold posOf; rw [if_neg (by omega), if_pos (by omega)]; omega)
    refine (peek_w3 (by omega) (by omega) hN p1 (by unfold posOf; rw [if_neg (by omega), if_pos (by omega)]; simp; omega) (by simp)).mono ?_
    rintro e w' ⟨rfl, w1, ⟨hs1, hg1⟩, rfl⟩
    have hg := one_setCell (one_refl w1 (some b)) (p := ⟨b, 1, none⟩) (.inl rfl) (.int .i64 ((c : Int) - 1))
    have e2 : peekC zs.length c = c := by unfold peekC; rw [if_neg (by omega)]
    rw [e2]
    exact ⟨rfl, hs1.step' hg (by omega) (P' := (c : Int) - 1) (by unfold posOf; rw [if_neg (by omega), if_pos (by omega)]) (by simp; omega) (blk_set hs1.blk 1 _), one_trans hg1 hg⟩
  · have hN := next_told h (P1 := -1) (by unfold posOf; rw [if_neg (by omega), if_neg (by omega)])
    have e1 : posOf zs.length c = -1 := by unfold posOf; rw [if_neg (by omega), if_neg (by omega)]
    rw [e1] at p1
    refine (peek_w1 hN p1).mono ?_
    rintro e w' ⟨rfl, ⟨hs1, hg1⟩⟩
    have e2 : peekC zs.length c = min (c + 1) (zs.length + 1) := by unfold peekC; rw [if_neg (by omega)]; omega
    rw [e2]
    exact ⟨rfl, hs1, hg1⟩
end

theorem newScan_any (ao : Option Addr) (n cap : Nat) (w : World) :
    Calls Tryf.prog 19 #[.slice ao n cap] w fun e w' => e = .returned (.pointer (some ⟨w.heap.size, 0, none⟩)) ∧ w.alloc (.cells #[.slice ao n cap, .int .i64 0, .bool false, .int .i64 0, .bool false] 118) = w' := by
  go_enter Tryf.func19, Tryf.ntmps19
  go_wp2
  go_ret
  exact ⟨rfl, rfl⟩

/-- A fresh scanner over bytes that lie in the world. -/
theorem Scan.new {w : World} {ao : Option Addr} {cap : Nat} {zs : List Int} (hs : 0 < zs.length → ∃ sb so, ao = some ⟨sb, so, none⟩ ∧ ∀ i, i < zs.length → w.cell? ⟨sb, so + i, none⟩ = some (.int .u8 (zs.getD i 0)))
    (hl : zs.length ≤ 140737488355328) (hb : ∀ z, z ∈ zs → 0 ≤ z ∧ z ≤ 255) :
    Scan (w.alloc (.cells #[.slice ao zs.length cap, .int .i64 0, .bool false, .int .i64 0, .bool false] 118)) w.heap.size ao cap zs 0 0 := by
  refine ⟨blk_new _ _, fun h0 => ?_, by omega, by omega, hl, hb⟩
  obtain ⟨sb, so, h1, h2⟩ := hs h0
  refine ⟨sb, so, h1, ?_, fun i hi => ?_⟩
  · have := lt_of_cell (h2 0 h0); simp at this; omega
  · have hlt := lt_of_cell (h2 i hi)
    exact (World.cell?_of_block (w := w) (Below.heap_alloc w _ _ hlt)).trans (h2 i hi)

end Go.Proofs.YtcfhhcjcnafcjaaFmt
