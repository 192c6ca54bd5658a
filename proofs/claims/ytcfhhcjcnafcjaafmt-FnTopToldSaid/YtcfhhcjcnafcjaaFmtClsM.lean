/-
  The contract of Matches of a range and of a set, and of a call of Matches through the interface. Their condition: the class lies in memory as told.
-/
import Derived.Test.YtcfhhcjcnafcjaaFmtClsAll
import Derived.BigGuardPart
namespace Go.Proofs.YtcfhhcjcnafcjaaFmt
open Go.RowKit
set_option linter.unusedVariables false
set_option linter.unusedSimpArgs false


/-- Where a call of Matches through the interface leads. -/
@[go_sem] theorem m_dot (n : Nat) (a : Option Addr) (w : World) : (method (n + 1) 135 (.pointer a) "Matches").run Tryf.prog w = .ok (59, .pointer a) w := by kernel_rfl
@[go_sem] theorem m_chr (n : Nat) (a : Option Addr) (w : World) : (method (n + 1) 112 (.pointer a) "Matches").run Tryf.prog w = .ok (57, .pointer a) w := by kernel_rfl
@[go_sem] theorem m_sgl (n : Nat) (a : Option Addr) (w : World) : (method (n + 1) 132 (.pointer a) "Matches").run Tryf.prog w = .ok (58, .pointer a) w := by kernel_rfl
@[go_sem] theorem m_rng (n : Nat) (a : Option Addr) (w : World) : (method (n + 1) 143 (.pointer a) "Matches").run Tryf.prog w = .ok (61, .pointer a) w := by kernel_rfl
@[go_sem] theorem m_set (n : Nat) (a : Option Addr) (w : World) : (method (n + 1) 139 (.pointer a) "Matches").run Tryf.prog w = .ok (60, .pointer a) w := by kernel_rfl

/-- The facts on the type assertions of rangeClass.Matches. -/
@[go_sem] theorem as_chr (v : Value) (w : World) : (Instr.typeAssert (.iface 112 v) 97 112 true).run Tryf.prog w = .ok (.tuple #[v, .bool true]) w := by kernel_rfl
@[go_sem] theorem as_sgl (v : Value) (w : World) : (Instr.typeAssert (.iface 132 v) 97 112 true).run Tryf.prog w = .ok (.tuple #[.pointer none, .bool false]) w := by kernel_rfl
@[go_sem] theorem as_rng (v : Value) (w : World) : (Instr.typeAssert (.iface 143 v) 97 112 true).run Tryf.prog w = .ok (.tuple #[.pointer none, .bool false]) w := by kernel_rfl

theorem rngM_cc {m p q : Nat} {b e : Int} (ch : Int) {w : World} (h0 : w.cell? ⟨m, 0, none⟩ = some (.iface 112 (.pointer (some ⟨p, 0, none⟩)))) (h1 : w.cell? ⟨m, 1, none⟩ = some (.iface 112 (.pointer (some ⟨q, 0, none⟩))))
    (hb : w.cell? ⟨p, 0, none⟩ = some (.int .i64 b)) (he : w.cell? ⟨q, 0, none⟩ = some (.int .i64 e)) :
    Calls Tryf.prog 61 #[.pointer (some ⟨m, 0, none⟩), .int .i64 ch] w fun e' w' => e' = .returned (.bool (decide (b ≤ ch) && decide (ch ≤ e))) ∧ w = w' := by
  by_cases q1 : b ≤ ch
  all_goals
    go_enter Tryf.func61, Tryf.ntmps61
    go_wp2
    go_ret
    exact ⟨ret_bool (by first | (simp [q1]; done) | (simp; omega)), rfl⟩

theorem rngM_cx {m p : Nat} {b : Int} {T : TypeId} {v : Value} (ch : Int) {w : World} (h0 : w.cell? ⟨m, 0, none⟩ = some (.iface 112 (.pointer (some ⟨p, 0, none⟩)))) (h1 : w.cell? ⟨m, 1, none⟩ = some (.iface T v))
    (hT : T = 132 ∨ T = 143) (hb : w.cell? ⟨p, 0, none⟩ = some (.int .i64 b)) :
    Calls Tryf.prog 61 #[.pointer (some ⟨m, 0, none⟩), .int .i64 ch] w fun e' w' => e' = .returned (.bool false) ∧ w = w' := by
  rcases hT with rfl | rfl
  all_goals
    go_enter Tryf.func61, Tryf.ntmps61
    go_wp2
    go_ret
    exact ⟨rfl, rfl⟩

theorem rngM_x {m : Nat} {T : TypeId} {v : Value} (ch : Int) {w : World} (h0 : w.cell? ⟨m, 0, none⟩ = some (.iface T v)) (hT : T = 132 ∨ T = 143) :
    Calls Tryf.prog 61 #[.pointer (some ⟨m, 0, none⟩), .int .i64 ch] w fun e' w' => e' = .returned (.bool false) ∧ w = w' := by
  rcases hT with rfl | rfl
  all_goals
    go_enter Tryf.func61, Tryf.ntmps61
    go_wp2
    go_ret
    exact ⟨rfl, rfl⟩


/-- The contract of a range's Matches, whatever its ends. -/
theorem rngM_any {X : Nat → Prop} {x y : El} {m : Nat} {vx vy : Value} (ch : Int) {w : World} (hm : w.heap[m]? = some (.cells #[vx, vy] 145 (0, 0))) (hx : ElAt X w x vx) (hy : ElAt X w y vy) :
    Calls Tryf.prog 61 #[.pointer (some ⟨m, 0, none⟩), .int .i64 ch] w fun e' w' => e' = .returned (.bool ((El.rng x y).has ch)) ∧ w = w' := by
  have h0 := blk_cell hm 0 _ rfl
  have h1 := blk_cell hm 1 _ rfl
  cases x with
  | chr b =>
    obtain ⟨p, rfl, _, hp⟩ := hx
    cases y with
    | chr e => obtain ⟨q, rfl, _, hq⟩ := hy; exact rngM_cc ch h0 h1 (blk_cell hp 0 _ rfl) (blk_cell hq 0 _ rfl)
    | sgl c => obtain ⟨q, rfl, _, hq⟩ := hy; exact rngM_cx ch h0 h1 (.inl rfl) (blk_cell hp 0 _ rfl)
    | rng a b => obtain ⟨q, _, _, rfl, _⟩ := hy; exact rngM_cx ch h0 h1 (.inr rfl) (blk_cell hp 0 _ rfl)
  | sgl c => obtain ⟨p, rfl, _⟩ := hx; exact rngM_x ch h0 (.inl rfl)
  | rng a b => obtain ⟨p, _, _, rfl, _⟩ := hx; exact rngM_x ch h0 (.inr rfl)


theorem any_take_succ (l : List El) (k : Nat) (ch : Int) (h : k < l.length) : (l.take (k + 1)).any (fun e => e.has ch) = ((l.take k).any (fun e => e.has ch) || (l[k]).has ch) := by
  rw [List.take_succ_eq_append_getElem h, List.any_append]; simp only [List.any_cons, List.any_nil, Bool.or_false]
theorem set_hit {l : List El} {k : Nat} {ch : Int} {e : El} (h : k < l.length) (he : l[k] = e) (hh : e.has ch = true) (neg : Bool) : (Cl.set neg l).has ch = !neg := by
  have : l.any (fun e => e.has ch) = true := List.any_eq_true.2 ⟨l[k], List.getElem_mem h, by rw [he]; exact hh⟩
  simp only [Cl.has, this, if_true]

set_option maxHeartbeats 1000000 in
/-- The contract of a set's Matches. -/
theorem setM_any {X : Nat → Prop} {neg : Bool} {l : List El} {m cap : Nat} {ao : Option Addr} {vs : List Value} (ch : Int) {w : World} (hm : w.heap[m]? = some (.cells #[.bool neg, .slice ao l.length cap] 142 (0, 0)))
    (ho : w.ownsRow 0 97 1 (.slice ao l.length cap) l.length vs) (hl : ElsAt X w l vs) (hlen : l.length ≤ 9223372036854775807) :
    Calls Tryf.prog 60 #[.pointer (some ⟨m, 0, none⟩), .int .i64 ch] w fun e' w' => e' = .returned (.bool ((Cl.set neg l).has ch)) ∧ w = w' := by
  have h0 := blk_cell hm 0 _ rfl
  have h1 := blk_cell hm 1 _ rfl
  have HO := Lib.hid ho
  have HL := Lib.hid hl
  clear ho hl hm
  go_enter Tryf.func60, Tryf.ntmps60
  go_wp2
  go_loop [12] (fun i => ∃ k : Nat, k ≤ l.length ∧ i = .int .i64 k ∧ Hid ((l.take k).any (fun e => e.has ch) = false)) (fun i => l.length - (intOf i).toNat)
  case atStart => exact ⟨0, Nat.zero_le _, rfl, Lib.hid rfl⟩
  case round =>
    obtain ⟨k, hk, rfl, HN⟩ := hrel
    by_cases hlt : k < l.length
    · obtain ⟨g, rfl⟩ : ∃ g, ao = some ⟨g, 0, none⟩ := by
        rcases HO.out.2 with ⟨h1, h2⟩ | ⟨g, c', cur, h1, _⟩
        · omega
        · simp only [Value.slice.injEq] at h1; exact ⟨g, h1.1⟩
      obtain ⟨v, hv, hev⟩ := HL.out.get k _ (List.getElem?_eq_getElem hlt)
      have hc := (HO.out.cellAt k (by omega)).trans hv
      have HS := Lib.hid (any_take_succ l k ch hlt)
      generalize hee : l[k] = ee at *
      have HE := Lib.hid hee
      clear hee hv
      cases hb : ee.has ch with
      | true =>
        have HB := Lib.hid hb
        clear hb
        cases ee with
        | chr c =>
          obtain ⟨p, rfl, _, hp⟩ := hev
          have hp0 := blk_cell hp 0 _ rfl
          have hcc : (c == ch) = true := HB.out
          go_wp2_with (go_at_call 57; refine (chrM_any ch hp0).mono ?_; rintro e w' ⟨rfl, rfl⟩)
          go_ret
          exact ⟨ret_bool (set_hit hlt HE.out HB.out neg).symm, rfl⟩
        | sgl c =>
          obtain ⟨p, rfl, _, hp⟩ := hev
          have hp0 := blk_cell hp 0 _ rfl
          have hcc : singB c ch = true := HB.out
          go_wp2_with (go_at_call 58; refine (single_any c ch _ _ hp0).mono ?_; rintro e w' ⟨rfl, rfl⟩)
          go_ret
          exact ⟨ret_bool (set_hit hlt HE.out HB.out neg).symm, rfl⟩
        | rng x y =>
          obtain ⟨p, vx, vy, rfl, _, hp, hx, hy⟩ := hev
          have HR := Lib.hid (rngM_any ch hp hx hy)
          clear hp hx hy
          have hcc : (El.rng x y).has ch = true := HB.out
          go_wp2_with (go_at_call 61; refine HR.out.mono ?_; rintro e w' ⟨rfl, rfl⟩)
          go_ret
          exact ⟨ret_bool (set_hit hlt HE.out HB.out neg).symm, rfl⟩
      | false =>
        have HN' : Hid ((l.take (k + 1)).any (fun e => e.has ch) = false) := Lib.hid (by rw [HS.out, HN.out, hb]; rfl)
        have HB := Lib.hid hb
        clear hb
        cases ee with
        | chr c =>
          obtain ⟨p, rfl, _, hp⟩ := hev
          have hp0 := blk_cell hp 0 _ rfl
          have hcc : (c == ch) = false := HB.out
          go_wp2_with (go_at_call 57; refine (chrM_any ch hp0).mono ?_; rintro e w' ⟨rfl, rfl⟩)
          go_round
          case rel => exact ⟨k + 1, by omega, by go_num, HN'⟩
          case measure => simp [intOf]; omega
        | sgl c =>
          obtain ⟨p, rfl, _, hp⟩ := hev
          have hp0 := blk_cell hp 0 _ rfl
          have hcc : singB c ch = false := HB.out
          go_wp2_with (go_at_call 58; refine (single_any c ch _ _ hp0).mono ?_; rintro e w' ⟨rfl, rfl⟩)
          go_round
          case rel => exact ⟨k + 1, by omega, by go_num, HN'⟩
          case measure => simp [intOf]; omega
        | rng x y =>
          obtain ⟨p, vx, vy, rfl, _, hp, hx, hy⟩ := hev
          have HR := Lib.hid (rngM_any ch hp hx hy)
          clear hp hx hy
          have hcc : (El.rng x y).has ch = false := HB.out
          go_wp2_with (go_at_call 61; refine HR.out.mono ?_; rintro e w' ⟨rfl, rfl⟩)
          go_round
          case rel => exact ⟨k + 1, by omega, by go_num, HN'⟩
          case measure => simp [intOf]; omega
    · obtain rfl : k = l.length := by omega
      go_wp2
      go_ret
      refine ⟨ret_bool ?_, rfl⟩
      have := HN.out
      rw [List.take_length] at this
      simp only [Cl.has, this]; rfl

theorem owns_max {w : World} {B : Nat} {T : TypeId} {sz : Nat} {ao : Option Addr} {n cap : Nat} {xs : List Value} (h : w.ownsRow B T sz (.slice ao n cap) n xs) : n ≤ 9223372036854775807 := by
  rcases h.2 with ⟨_, h2⟩ | ⟨g', c, cur, h1, hb, hg, hn, hm, _⟩
  · omega
  · unfold maxLen at hm; omega

theorem e_dot (args : Array Value) (w : World) : (callFunc 59 args).run Tryf.prog w = .ok (.enter 59 args) w := by kernel_rfl
theorem e_chr (args : Array Value) (w : World) : (callFunc 57 args).run Tryf.prog w = .ok (.enter 57 args) w := by kernel_rfl
theorem e_sgl (args : Array Value) (w : World) : (callFunc 58 args).run Tryf.prog w = .ok (.enter 58 args) w := by kernel_rfl
theorem e_rng (args : Array Value) (w : World) : (callFunc 61 args).run Tryf.prog w = .ok (.enter 61 args) w := by kernel_rfl
theorem e_set (args : Array Value) (w : World) : (callFunc 60 args).run Tryf.prog w = .ok (.enter 60 args) w := by kernel_rfl
/-- Where a call of Matches on a class leads, and what it answers. -/
structure Meets (w : World) (v : Value) (p : Int → Bool) : Prop where
  leads : ∃ T a f, v = .iface T (.pointer a) ∧ (∀ (n : Nat) (w : World), (method (n + 1) T (.pointer a) "Matches").run Tryf.prog w = .ok (f, .pointer a) w) ∧ (∀ (args : Array Value) (w : World), (callFunc f args).run Tryf.prog w = .ok (.enter f args) w) ∧
    ∀ ch : Int, Calls Tryf.prog f #[.pointer a, .int .i64 ch] w fun e' w' => e' = .returned (.bool (p ch)) ∧ w = w'

theorem ElAt.meets {X : Nat → Prop} {w : World} {e : El} {v : Value} (h : ElAt X w e v) : Meets w v e.has := by
  cases e with
  | chr c => obtain ⟨b, rfl, _, hb⟩ := h; exact ⟨_, _, _, rfl, fun n w => m_chr n _ w, e_chr, fun ch => chrM_any ch (blk_cell hb 0 _ rfl)⟩
  | sgl c => obtain ⟨b, rfl, _, hb⟩ := h; exact ⟨_, _, _, rfl, fun n w => m_sgl n _ w, e_sgl, fun ch => single_any c ch _ _ (blk_cell hb 0 _ rfl)⟩
  | rng x y => obtain ⟨b, vx, vy, rfl, _, hb, hx, hy⟩ := h; exact ⟨_, _, _, rfl, fun n w => m_rng n _ w, e_rng, fun ch => rngM_any ch hb hx hy⟩
theorem ClAt.meets {X : Nat → Prop} {w : World} {c : Cl} {v : Value} (h : ClAt X w c v) : Meets w v c.has := by
  cases c with
  | dot => obtain ⟨b, rfl⟩ := h; exact ⟨_, _, _, rfl, fun n w => m_dot n _ w, e_dot, fun ch => dotM_any _ ch w⟩
  | el e => exact ElAt.meets h
  | set neg l => obtain ⟨b, ao, cap, vs, rfl, _, hb, ho, _, hs⟩ := h; exact ⟨_, _, _, rfl, fun n w => m_set n _ w, e_set, fun ch => setM_any ch hb ho hs (owns_max ho)⟩

end Go.Proofs.YtcfhhcjcnafcjaaFmt
