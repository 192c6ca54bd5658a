/-
  The contract of the reference's match; the reference's search as a plain function. Conditions as each statement says.
-/
import Derived.Test.YtcfhhcjcnafcjaaFmtMmA
import Derived.Test.YtcfhhcjcnafcjaaFmtMmB
import Derived.Test.YtcfhhcjcnafcjaaFmtRfX
namespace Go.Proofs.YtcfhhcjcnafcjaaFmt
open Go.RowKit
set_option linter.unusedVariables false
set_option linter.unusedSimpArgs false


theorem mm_code {P : Program} {c c' : Code} {Q : Exit → Act → World → Prop} {a : Act} {w : World} (h : c = c') (hw : c'.wp P Q a w) : c.wp P Q a w := h ▸ hw
set_option maxRecDepth 1000000 in
theorem mm_range (g : Nat → Value) : ((List.range 323).map g).toArray = #[g 0, g 1, g 2, g 3, g 4, g 5, g 6, g 7, g 8, g 9, g 10, g 11, g 12, g 13, g 14, g 15, g 16, g 17, g 18, g 19, g 20, g 21, g 22, g 23, g 24, g 25, g 26, g 27, g 28, g 29, g 30, g 31, g 32, g 33, g 34, g 35, g 36, g 37, g 38, g 39, g 40, g 41, g 42, g 43, g 44, g 45, g 46, g 47, g 48, g 49, g 50, g 51, g 52, g 53, g 54, g 55, g 56, g 57, g 58, g 59, g 60, g 61, g 62, g 63, g 64, g 65, g 66, g 67, g 68, g 69, g 70, g 71, g 72, g 73, g 74, g 75, g 76, g 77, g 78, g 79, g 80, g 81, g 82, g 83, g 84, g 85, g 86, g 87, g 88, g 89, g 90, g 91, g 92, g 93, g 94, g 95, g 96, g 97, g 98, g 99, g 100, g 101, g 102, g 103, g 104, g 105, g 106, g 107, g 108, g 109, g 110, g 111, g 112, g 113, g 114, g 115, g 116, g 117, g 118, g 119, g 120, g 121, g 122, g 123, g 124, g 125, g 126, g 127, g 128, g 129, g 130, g 131, g 132, g 133, g 134, g 135, g 136, g 137, g 138, g 139, g 140, g 141, g 142, g 143, g 144, g 145, g 146, g 147, g 148, g 149, g 150, g 151, g 152, g 153, g 154, g 155, g 156, g 157, g 158, g 159, g 160, g 161, g 162, g 163, g 164, g 165, g 166, g 167, g 168, g 169, g 170, g 171, g 172, g 173, g 174, g 175, g 176, g 177, g 178, g 179, g 180, g 181, g 182, g 183, g 184, g 185, g 186, g 187, g 188, g 189, g 190, g 191, g 192, g 193, g 194, g 195, g 196, g 197, g 198, g 199, g 200, g 201, g 202, g 203, g 204, g 205, g 206, g 207, g 208, g 209, g 210, g 211, g 212, g 213, g 214, g 215, g 216, g 217, g 218, g 219, g 220, g 221, g 222, g 223, g 224, g 225, g 226, g 227, g 228, g 229, g 230, g 231, g 232, g 233, g 234, g 235, g 236, g 237, g 238, g 239, g 240, g 241, g 242, g 243, g 244, g 245, g 246, g 247, g 248, g 249, g 250, g 251, g 252, g 253, g 254, g 255, g 256, g 257, g 258, g 259, g 260, g 261, g 262, g 263, g 264, g 265, g 266, g 267, g 268, g 269, g 270, g 271, g 272, g 273, g 274, g 275, g 276, g 277, g 278, g 279, g 280, g 281, g 282, g 283, g 284, g 285, g 286, g 287, g 288, g 289, g 290, g 291, g 292, g 293, g 294, g 295, g 296, g 297, g 298, g 299, g 300, g 301, g 302, g 303, g 304, g 305, g 306, g 307, g 308, g 309, g 310, g 311, g 312, g 313, g 314, g 315, g 316, g 317, g 318, g 319, g 320, g 321, g 322] := by kernel_rfl
set_option maxRecDepth 1000000 in
theorem mm_lit (xs : Array Value) (h : xs.size = 323) {v0 v1 v2 : Value} (h0 : xs[0]? = some v0) (h1 : xs[1]? = some v1) (h2 : xs[2]? = some v2) : ∃ f : Nat → Value, xs = #[v0, v1, v2, f 3, f 4, f 5, f 6, f 7, f 8, f 9, f 10, f 11, f 12, f 13, f 14, f 15, f 16, f 17, f 18, f 19, f 20, f 21, f 22, f 23, f 24, f 25, f 26, f 27, f 28, f 29, f 30, f 31, f 32, f 33, f 34, f 35, f 36, f 37, f 38, f 39, f 40, f 41, f 42, f 43, f 44, f 45, f 46, f 47, f 48, f 49, f 50, f 51, f 52, f 53, f 54, f 55, f 56, f 57, f 58, f 59, f 60, f 61, f 62, f 63, f 64, f 65, f 66, f 67, f 68, f 69, f 70, f 71, f 72, f 73, f 74, f 75, f 76, f 77, f 78, f 79, f 80, f 81, f 82, f 83, f 84, f 85, f 86, f 87, f 88, f 89, f 90, f 91, f 92, f 93, f 94, f 95, f 96, f 97, f 98, f 99, f 100, f 101, f 102, f 103, f 104, f 105, f 106, f 107, f 108, f 109, f 110, f 111, f 112, f 113, f 114, f 115, f 116, f 117, f 118, f 119, f 120, f 121, f 122, f 123, f 124, f 125, f 126, f 127, f 128, f 129, f 130, f 131, f 132, f 133, f 134, f 135, f 136, f 137, f 138, f 139, f 140, f 141, f 142, f 143, f 144, f 145, f 146, f 147, f 148, f 149, f 150, f 151, f 152, f 153, f 154, f 155, f 156, f 157, f 158, f 159, f 160, f 161, f 162, f 163, f 164, f 165, f 166, f 167, f 168, f 169, f 170, f 171, f 172, f 173, f 174, f 175, f 176, f 177, f 178, f 179, f 180, f 181, f 182, f 183, f 184, f 185, f 186, f 187, f 188, f 189, f 190, f 191, f 192, f 193, f 194, f 195, f 196, f 197, f 198, f 199, f 200, f 201, f 202, f 203, f 204, f 205, f 206, f 207, f 208, f 209, f 210, f 211, f 212, f 213, f 214, f 215, f 216, f 217, f 218, f 219, f 220, f 221, f 222, f 223, f 224, f 225, f 226, f 227, f 228, f 229, f 230, f 231, f 232, f 233, f 234, f 235, f 236, f 237, f 238, f 239, f 240, f 241, f 242, f 243, f 244, f 245, f 246, f 247, f 248, f 249, f 250, f 251, f 252, f 253, f 254, f 255, f 256, f 257, f 258, f 259, f 260, f 261, f 262, f 263, f 264, f 265, f 266, f 267, f 268, f 269, f 270, f 271, f 272, f 273, f 274, f 275, f 276, f 277, f 278, f 279, f 280, f 281, f 282, f 283, f 284, f 285, f 286, f 287, f 288, f 289, f 290, f 291, f 292, f 293, f 294, f 295, f 296, f 297, f 298, f 299, f 300, f 301, f 302, f 303, f 304, f 305, f 306, f 307, f 308, f 309, f 310, f 311, f 312, f 313, f 314, f 315, f 316, f 317, f 318, f 319, f 320, f 321, f 322] := by
  have hf : ∀ k, k < 323 → xs[k]? = some (xs.getD k .nilIface) := fun k hk => by
    rw [Array.getD_eq_getD_getElem?, Array.getElem?_eq_getElem (by omega)]; rfl
  refine ⟨fun k => xs.getD k .nilIface, ?_⟩
  have e := (vm_arr xs 323 h _ hf).trans (mm_range _)
  have e0 : xs.getD 0 .nilIface = v0 := by rw [Array.getD_eq_getD_getElem?, h0]; rfl
  have e1 : xs.getD 1 .nilIface = v1 := by rw [Array.getD_eq_getD_getElem?, h1]; rfl
  have e2 : xs.getD 2 .nilIface = v2 := by rw [Array.getD_eq_getD_getElem?, h2]; rfl
  subst e0 e1 e2
  exact e
theorem mm_act {a : Act} (h : a.defers = []) : a = { tmps := a.tmps, defers := [] } := by cases a; simp only [Act.mk.injEq, true_and]; exact h
set_option maxRecDepth 1000000 in
set_option maxHeartbeats 1000000 in
theorem mm_round {w0 w : World} {B mb ca ea nc : Nat} {sa : Option Addr} {scap : Nat} {src : List Int} {ka : Option Addr} {kcap : Nat} {ts : List Tk} {ks : List Value} {tl : Bool} {R : Rs} (hby : ∀ z, z ∈ src → 0 ≤ z ∧ z ≤ 255) (hlen : src.length ≤ 1048576) (htl : ts.length ≤ 1048576) (hnc : nc ≤ 1048576) {a : Act} {s i : Nat} {K : Act → World → Prop} (ih : MIh B mb ca ea nc sa scap src ka kcap ts ks tl i) (hf : MFr mb s i a) (hrel : MRel w0 B mb ca ea nc sa scap src ka kcap ts ks tl R w s i)
    (hK : ∀ a' w' s' i', i < i' → i' ≤ ts.length → MFr mb s' i' a' → MRel w0 B mb ca ea nc sa scap src ka kcap ts ks tl R w' s' i' → K a' w') : mBody.wp Tryf.prog (Exit.then K (MQ w0 B mb ca ea nc sa scap src ka kcap ts ks tl R)) a w := by
  obtain ⟨f, hfr⟩ := mm_lit a.tmps hf.sz hf.s0 hf.s1 hf.s2
  rw [mm_act hf.df, hfr]
  clear hfr hf
  obtain ⟨pre, post, X, st, hm, hk0, hts, hi, hs, hlin, ho, hR⟩ := hrel
  cases post with
  | nil => exact mm_end (rest := []) hm hk0 hts hi hs hlin ho hR hby hlen htl hnc ih hK f
  | cons t rest =>
    cases t with
    | cls k q =>
      have hq := hlin.1
      simp only [quants, List.mem_cons, List.not_mem_nil, or_false] at hq
      rcases hq with rfl | rfl | rfl | rfl | rfl
      · exact mm_plain hm hk0 hts hi hs hlin ho hR hby hlen htl hnc ih hK f
      · exact mm_star42 hm hk0 hts hi hs hlin ho hR hby hlen htl hnc ih hK f
      · exact mm_star43 hm hk0 hts hi hs hlin ho hR hby hlen htl hnc ih hK f
      · exact mm_minus hm hk0 hts hi hs hlin ho hR hby hlen htl hnc ih hK f
      · exact mm_opt hm hk0 hts hi hs hlin ho hR hby hlen htl hnc ih hK f
    | opn n => exact mm_opn hm hk0 hts hi hs hlin ho hR hby hlen htl hnc ih hK f
    | clo n => exact mm_clo hm hk0 hts hi hs hlin ho hR hby hlen htl hnc ih hK f
    | pos n => exact mm_pos hm hk0 hts hi hs hlin ho hR hby hlen htl hnc ih hK f
    | ref n => exact mm_ref hm hk0 hts hi hs hlin ho hR hby hlen htl hnc ih hK f
    | brc x y => exact mm_brc hm hk0 hts hi hs hlin ho hR hby hlen htl hnc ih hK f
theorem mih_mono {B mb ca ea nc : Nat} {sa : Option Addr} {scap : Nat} {src : List Int} {ka : Option Addr} {kcap : Nat} {ts : List Tk} {ks : List Value} {tl : Bool} {i j : Nat} (h : MIh B mb ca ea nc sa scap src ka kcap ts ks tl i) (hij : i ≤ j) : MIh B mb ca ea nc sa scap src ka kcap ts ks tl j :=
  fun w st s pre post X sz iz h1 h2 h3 => h w st s pre post X sz iz h1 h2 (by omega)
theorem mm_loop {w0 w : World} {B mb ca ea nc : Nat} {sa : Option Addr} {scap : Nat} {src : List Int} {ka : Option Addr} {kcap : Nat} {ts : List Tk} {ks : List Value} {tl : Bool} {R : Rs} (hby : ∀ z, z ∈ src → 0 ≤ z ∧ z ≤ 255) (hlen : src.length ≤ 1048576) (htl : ts.length ≤ 1048576) (hnc : nc ≤ 1048576) {a : Act} {s i : Nat} (hil : i ≤ ts.length) (ih : MIh B mb ca ea nc sa scap src ka kcap ts ks tl i) (hf : MFr mb s i a) (hrel : MRel w0 B mb ca ea nc sa scap src ka kcap ts ks tl R w s i) : (Code.loop mBody).wp Tryf.prog (MQ w0 B mb ca ea nc sa scap src ka kcap ts ks tl R) a w := by
  refine wp_loop_ghost (fun n a' w' => ∃ s' i', n = ts.length - i' ∧ i' ≤ ts.length ∧ i ≤ i' ∧ MFr mb s' i' a' ∧ MRel w0 B mb ca ea nc sa scap src ka kcap ts ks tl R w' s' i') (ts.length - i) ⟨s, i, rfl, hil, Nat.le_refl _, hf, hrel⟩ ?_
  rintro n a' w' ⟨s', i', rfl, hl', hge, hf', hrel'⟩
  refine mm_round hby hlen htl hnc (mih_mono ih hge) hf' hrel' ?_
  intro a2 w2 s2 i2 hlt hle2 hf2 hrel2
  exact ⟨ts.length - i2, by omega, s2, i2, rfl, hle2, by omega, hf2, hrel2⟩
theorem mm_results {tmps : Array Value} {w : World} {v : Value} (h : tmps[6]? = some v) : (results Tryf.f16 tmps).run Tryf.prog w = .ok v w := by
  have h' : tmps[6]?.getD undef = v := by rw [h]; rfl
  simp [results, Tryf.results16, h', go_sem]
set_option maxRecDepth 1000000 in
set_option maxHeartbeats 4000000 in
theorem match_step {B mb ca ea nc : Nat} {sa : Option Addr} {scap : Nat} {src : List Int} {ka : Option Addr} {kcap : Nat} {ts : List Tk} {ks : List Value} {tl : Bool} (hby : ∀ z, z ∈ src → 0 ≤ z ∧ z ≤ 255) (hlen : src.length ≤ 1048576) (htl : ts.length ≤ 1048576) (hnc : nc ≤ 1048576) {w : World} {st : St} {s : Nat} {pre post : List Tk} {X : Cx} (ih : MIh B mb ca ea nc sa scap src ka kcap ts ks tl pre.length) (hm : MM w B mb ca ea nc sa scap src ka kcap ts ks tl st) (hts : ts = pre ++ post) (hs : s ≤ src.length) (hlin : Lin nc X post) (ho : Ord nc X s st) :
    Calls Tryf.prog 16 #[.pointer (some ⟨mb, 0, none⟩), .int .i64 (s : Int), .int .i64 (pre.length : Int)] w (MPost w B mb ca ea nc sa scap src ka kcap ts ks tl (mt src tl post s st)) := by
  have hil : pre.length ≤ ts.length := by rw [hts]; simp
  have HREL : Hid (MRel w B mb ca ea nc sa scap src ka kcap ts ks tl (mt src tl post s st) w s pre.length) := Lib.hid ⟨pre, post, X, st, hm, K2.refl _ _ _, hts, rfl, hs, hlin, ho, rfl⟩
  have IH := Lib.hid ih
  have HBY := Lib.hid hby
  generalize mt src tl post s st = R at HREL ⊢
  obtain ⟨i, hi⟩ : ∃ i, pre.length = i := ⟨_, rfl⟩
  rw [hi] at IH HREL hil ⊢
  clear hm hts hlin ho ih hi hby
  go_enter Tryf.func16, Tryf.ntmps16
  go_wp2_with fail
  refine wp_mono (mm_code (c' := Code.loop mBody) (by kernel_rfl) (mm_loop HBY.out hlen htl hnc hil IH.out ⟨rfl, rfl, rfl, rfl, rfl⟩ HREL.out)) ?_
  intro e a' w' hq
  cases e with
  | exit id =>
    obtain ⟨rfl, s', hf, pre', post', X', st', hm', hk', hts', hi', hs', hl', ho', hR'⟩ := hq
    have hnil : post' = [] := by
      have h := congrArg List.length hts'
      rw [List.length_append, hi'] at h
      exact List.length_eq_zero_iff.1 (by omega)
    subst hnil
    obtain ⟨f, hfr⟩ := mm_lit a'.tmps hf.sz hf.s0 hf.s1 hf.s2
    have ha := mm_act hf.df
    rw [hfr] at ha
    subst ha
    have km0 := blk_cell hm'.blk 0 _ rfl
    have km4 := blk_cell hm'.blk 4 _ rfl
    have HM' := Lib.hid hm'
    have HK' := Lib.hid hk'
    have HR' : Hid ((if tl = true ∧ s' ≠ src.length then (none, st') else (some s', st')) = R) := Lib.hid (by rw [← hR', mt])
    clear hfr hf hm' hk' hts' hi' hl' ho' hR' HREL IH
    cases tl with
    | false =>
      have HR2 : Hid (((some s', st') : Rs) = R) := Lib.hid (by rw [← HR'.out, if_neg (by simp)])
      go_wp2_with fail
      go_ret
      rw [← HR2.out]
      exact ⟨rfl, HM'.out, HK'.out⟩
    | true =>
      by_cases he : s' = src.length
      · subst he
        have tn : ((src.length : Int) != (src.length : Int)) = false := by simp
        have HR2 : Hid (((some src.length, st') : Rs) = R) := Lib.hid (by rw [← HR'.out, if_neg (by simp)])
        go_wp2_with fail
        go_ret
        rw [← HR2.out]
        exact ⟨rfl, HM'.out, HK'.out⟩
      · have tn : ((s' : Int) != (src.length : Int)) = true := by simp; omega
        have HR2 : Hid (((none, st') : Rs) = R) := Lib.hid (by rw [← HR'.out, if_pos ⟨rfl, he⟩])
        clear he
        go_wp2_with fail
        go_ret
        rw [← HR2.out]
        exact ⟨rfl, HM'.out, HK'.out⟩
  | ret => exact bodyPost_ret (mm_results hq.2.1) hq.1 ⟨rfl, hq.2.2.1, hq.2.2.2⟩
  | normal => exact hq.elim
  | goto n => exact hq.elim
  | panic ch => exact hq.elim
  | outgrown => exact hq.elim
theorem match_all {B mb ca ea nc : Nat} {sa : Option Addr} {scap : Nat} {src : List Int} {ka : Option Addr} {kcap : Nat} {ts : List Tk} {ks : List Value} {tl : Bool} (hby : ∀ z, z ∈ src → 0 ≤ z ∧ z ≤ 255) (hlen : src.length ≤ 1048576) (htl : ts.length ≤ 1048576) (hnc : nc ≤ 1048576) : ∀ n i, ts.length ≤ i + n → MIh B mb ca ea nc sa scap src ka kcap ts ks tl i
  | 0, i, h => fun w st s pre post X sz iz h1 h2 h3 => by
    have : pre.length ≤ ts.length := by rw [h2]; simp
    omega
  | n + 1, i, h => fun w st s pre post X sz iz h1 h2 h3 h4 h5 h6 h7 h8 => by
    subst h7 h8
    exact match_step hby hlen htl hnc (match_all hby hlen htl hnc n pre.length (by omega)) h1 h2 h4 h5 h6


/-- A match as the reference tells it: the places, the flags. -/
abbrev Mt := List Nat × List Bool
/-- Matches one after the other; none of their blocks is one of X. -/
inductive OutAt (X : Nat → Prop) (w : World) : List Mt → List Value → Prop
  | nil : OutAt X w [] []
  | cons {l1 : List Nat} {l2 : List Bool} {a1 a2 : Option Addr} {c1 c2 : Nat} {ms : List Mt} {vs : List Value} : w.ownsRow 0 3 1 (.slice a1 l1.length c1) l1.length (ints l1) → w.ownsRow 0 4 1 (.slice a2 l2.length c2) l2.length (bools l2) → (∀ g, blkOf a1 = some g → ¬ X g) → (∀ g, blkOf a2 = some g → ¬ X g) → OutAt X w ms vs →
      OutAt X w ((l1, l2) :: ms) (.slice a1 l1.length c1 :: .slice a2 l2.length c2 :: vs)
theorem OutAt.kept {X Y : Nat → Prop} {w w' : World} {ms : List Mt} {vs : List Value} (h : OutAt X w ms vs) (hk : ∀ k o, ¬ X k → w.heap[k]? = some o → w'.heap[k]? = some o) (hX : ∀ k, k < w.heap.size → Y k → X k) : OutAt Y w' ms vs := by
  induction h with
  | nil => exact .nil
  | cons h1 h2 h3 h4 _ ih => exact .cons (owns_kept h1 (fun g o hg ho => hk g o (h3 g hg) ho)) (owns_kept h2 (fun g o hg ho => hk g o (h4 g hg) ho)) (fun g hg hy => h3 g hg (hX g (owns_lt h1 g hg).2 hy)) (fun g hg hy => h4 g hg (hX g (owns_lt h2 g hg).2 hy)) ih
theorem OutAt.append {X : Nat → Prop} {w : World} {ms ks : List Mt} {vs us : List Value} (h : OutAt X w ms vs) (k : OutAt X w ks us) : OutAt X w (ms ++ ks) (vs ++ us) := by
  induction h with
  | nil => exact k
  | cons h1 h2 h3 h4 _ ih => exact .cons h1 h2 h3 h4 ih
theorem OutAt.len {X : Nat → Prop} {w : World} {ms : List Mt} {vs : List Value} (h : OutAt X w ms vs) : vs.length = ms.length * 2 := by
  induction h with
  | nil => rfl
  | cons _ _ _ _ _ ih => simp [ih]; omega
theorem OutAt.get {X : Nat → Prop} {w : World} {ms : List Mt} {vs : List Value} (h : OutAt X w ms vs) : ∀ (i : Nat) (m : Mt), ms[i]? = some m → ∃ a1 c1 a2 c2, vs[i * 2]? = some (.slice a1 m.1.length c1) ∧ vs[i * 2 + 1]? = some (.slice a2 m.2.length c2) ∧ w.ownsRow 0 3 1 (.slice a1 m.1.length c1) m.1.length (ints m.1) ∧ w.ownsRow 0 4 1 (.slice a2 m.2.length c2) m.2.length (bools m.2) := by
  induction h with
  | nil => intro i m hm; simp at hm
  | cons h1 h2 _ _ _ ih =>
    intro i m hm
    cases i with
    | zero => simp at hm; subst hm; exact ⟨_, _, _, _, rfl, rfl, h1, h2⟩
    | succ i =>
      obtain ⟨a1, c1, a2, c2, e1, e2, e3, e4⟩ := ih i m (by simpa using hm)
      refine ⟨a1, c1, a2, c2, ?_, ?_, e3, e4⟩
      · rw [show (i + 1) * 2 = i * 2 + 1 + 1 by omega]; simpa using e1
      · rw [show (i + 1) * 2 + 1 = i * 2 + 1 + 1 + 1 by omega]; simpa using e2
/-- The captures from the first to the k-th. -/
def capsTo (ps : List Bool) (st : St) : Nat → List Nat
  | 0 => []
  | k + 1 => capsTo ps st k ++ (if ps.getD (k + 1) false then [st.1.getD (k + 1) 0, st.1.getD (k + 1) 0] else [st.1.getD (k + 1) 0, st.2.getD (k + 1) 0])
def flagsTo (ps : List Bool) : Nat → List Bool
  | 0 => []
  | k + 1 => flagsTo ps k ++ (if ps.getD (k + 1) false then [true, true] else [false, false])
theorem capsTo_len (ps : List Bool) (st : St) : ∀ k, (capsTo ps st k).length = 2 * k
  | 0 => rfl
  | k + 1 => by unfold capsTo; rw [List.length_append, capsTo_len ps st k]; split <;> simp <;> omega
theorem flagsTo_len (ps : List Bool) : ∀ k, (flagsTo ps k).length = 2 * k
  | 0 => rfl
  | k + 1 => by unfold flagsTo; rw [List.length_append, flagsTo_len ps k]; split <;> simp <;> omega
/-- The match that is told. -/
def mtOf (nc : Nat) (ps : List Bool) (sp e : Nat) (st : St) : Mt := ([sp, e] ++ capsTo ps st nc, [false, false] ++ flagsTo ps nc)
/-- The reference's search. -/
def refLoop (len nc : Nat) (ps : List Bool) (res : Nat → Rs) (limit : Int) (anch : Bool) (sp : Nat) (acc : List Mt) : List Mt :=
  if len < sp then acc
  else match res sp with
    | (some e, st) => if ((acc.length + 1 : Nat) : Int) = limit ∨ anch = true then acc ++ [mtOf nc ps sp e st] else refLoop len nc ps res limit anch (max (sp + 1) e) (acc ++ [mtOf nc ps sp e st])
    | (none, _) => if (acc.length : Int) = limit ∨ anch = true then acc else refLoop len nc ps res limit anch (sp + 1) acc
termination_by len + 1 - sp
decreasing_by all_goals omega

end Go.Proofs.YtcfhhcjcnafcjaaFmt
