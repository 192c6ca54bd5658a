/-
  What the walks of the two laws on Find lean on: places and MatchDatas as they lie in memory behind Find. Plain laws; conditions as each states.
-/
import Derived.Test.YtankjgbcpdodgaaFmtDig
namespace Go.Proofs.YtankjgbcpdodgaaFmt
open Go.RowKit
set_option linter.unusedVariables false
set_option linter.unusedSimpArgs false

theorem owns_get {w : World} {B : Nat} {T : TypeId} {g n cap k : Nat} {xs : List Value} {u : Value} (h : w.ownsRow B T 1 (.slice (some ⟨g, 0, none⟩) n cap) n xs) (hk : xs[k]? = some u) : w.cell? ⟨g, k, none⟩ = some u := by
  have := h.cells (g := g) rfl k u hk
  rw [addr_add, Nat.zero_add] at this
  exact this
/-- Places one after the other in block g. -/
def NatsAt (w : World) (g : Nat) (S : List Nat) : Prop := ∀ k, k < S.length → w.cell? ⟨g, k, none⟩ = some (.int .i64 (S.getD k 0 : Nat))
theorem natsAt_of {w : World} {B g n cap : Nat} {S : List Nat} (h : w.ownsRow B 3 1 (.slice (some ⟨g, 0, none⟩) n cap) n (natVals S)) : NatsAt w g S := fun k hk =>
  owns_get h (by simp [natVals, List.getElem?_map, List.getElem?_eq_getElem hk, List.getD_eq_getElem?_getD])
theorem NatsAt.below {w w' : World} {B g : Nat} {S : List Nat} (h : NatsAt w g S) (hb : Below B w w') (hB : w.heap.size ≤ B) : NatsAt w' g S := fun k hk =>
  (hb.cell (p := ⟨g, k, none⟩) (Nat.lt_of_lt_of_le (lt_of_cell (h k hk)) hB)).trans (h k hk)
/-- The MatchDatas that a slice at block g holds. -/
def Found (w : World) (g n : Nat) (word : Nat → List Int) : Prop := ∀ k, k < n → ∃ m ao c, w.cell? ⟨g, k, none⟩ = some (.pointer (some ⟨m, 0, none⟩)) ∧ MD w m ao c (word k)
def FindAt (w : World) (n : Nat) (word : Nat → List Int) (e : Ending) (w' : World) : Prop :=
  ∃ g cap, e = .returned (.tuple #[.slice (some ⟨g, 0, none⟩) n cap, .nilIface]) ∧ Found w' g n word ∧ Below w.heap.size w w'
theorem findPost_at {w w' : World} {e : Ending} {R : List (List Int)} {n : Nat} {word : Nat → List Int} (h : FindPost w R e w') (hn : R.length = n) (hw : ∀ k, k < n → R[k]? = some (word k)) : FindAt w n word e w' := by
  subst hn
  obtain ⟨g, cap, vs, rfl, h1, h2, h3⟩ := h
  refine ⟨g, cap, rfl, fun k hk => ?_, h3⟩
  obtain ⟨m, ao, c, e1, e2⟩ := h2.get k _ (hw k hk)
  exact ⟨m, ao, c, owns_get h1 e1, e2⟩
theorem kept_le (n : Nat) (first : Bool) (limit : Int) : kept n first limit ≤ n := by
  unfold kept
  split
  · omega
  · split <;> omega
theorem take_map_get {α β : Type} {l : List α} {f : α → β} {n k : Nat} {d : α} (hk : k < n) (hn : n ≤ l.length) : ((l.take n).map f)[k]? = some (f (l.getD k d)) := by
  rw [List.getElem?_map, List.getElem?_take_of_lt hk, List.getElem?_eq_getElem (by omega), List.getD_eq_getElem?_getD, List.getElem?_eq_getElem (by omega)]
  rfl
theorem find_litAt (s : ByteArray) {w : World} {sao : Option Addr} {scap : Nat} {zs : List Int} (off : Nat) (limit : Int) {first : Bool} {S : List Nat} {n : Nat} (hS : litStarts zs (bz s) off = S) (hn : kept S.length first limit = n) (hs : s.size ≤ 4096) (hp : Hid ((bz s).all plainZ = true)) (hf : first = (decide (off ≤ zs.length) && occ zs (bz s) off))
    (hsrc : RowInt .u8 w sao zs) (hsb : ∀ x, sao = some x → x.block < w.heap.size) (hby : ∀ z, z ∈ zs → 0 ≤ z ∧ z ≤ 255) (hlen : zs.length ≤ 65536) (hoff : off ≤ 9223372036854775807) :
    Calls Tryf.prog 20 #[.string s, .slice sao zs.length scap, .int .i64 off, .int .i64 limit] w (FindAt w n (fun k => litWord s.size (S.getD k 0))) := by
  subst hS hn
  have hk := kept_le (litStarts zs (bz s) off).length first limit
  exact (find_lit s off limit hs hp hf hsrc hsb hby hlen hoff).mono fun e w' h => findPost_at h (by rw [List.length_map, List.length_take]; omega) (fun k h => take_map_get h hk)
theorem find_digAt {w : World} {sao : Option Addr} {scap : Nat} {zs : List Int} (off : Nat) (limit : Int) {first : Bool} {S : List (Nat × Nat)} {n : Nat} (hS : digRuns zs off = S) (hn : kept S.length first limit = n) (hf : first = dgAt zs off)
    (hsrc : RowInt .u8 w sao zs) (hsb : ∀ x, sao = some x → x.block < w.heap.size) (hby : ∀ z, z ∈ zs → 0 ≤ z ∧ z ≤ 255) (hlen : zs.length ≤ 65536) (hoff : off ≤ 9223372036854775807) :
    Calls Tryf.prog 20 #[.string ⟨#[37, 100, 43]⟩, .slice sao zs.length scap, .int .i64 off, .int .i64 limit] w (FindAt w n (fun k => digWord (S.getD k (0, 0)))) := by
  subst hS hn
  have hk := kept_le (digRuns zs off).length first limit
  exact (find_dig ⟨#[37, 100, 43]⟩ off limit (by decide) rfl hf hsrc hsb hby hlen hoff).mono fun e w' h => findPost_at h (by rw [List.length_map, List.length_take]; omega) (fun k h => take_map_get h hk)

theorem capLen_is {w : World} {m cap : Nat} {ao : Option Addr} {us : List Int} {z : Int} (h : MD w m ao cap us) (hz : (us.length : Int) = z) :
    Calls Tryf.prog 12 #[.pointer (some ⟨m, 0, none⟩)] w fun e w' => e = .returned (.int .i64 z) ∧ w = w' := hz ▸ capLen_any h
theorem cap_z {w : World} {m cap : Nat} {ao : Option Addr} {us : List Int} {iz v : Int} (i : Nat) (h : MD w m ao cap us) (hi : i < us.length) (hiz : iz = (i : Int)) (hv : us.getD i 0 / 2 = v) :
    Calls Tryf.prog 14 #[.pointer (some ⟨m, 0, none⟩), .int .i64 iz] w fun e w' => e = .returned (.int .i64 v) ∧ w = w' := by subst hiz; exact cap_is i v h hi (Lib.hid hv)
theorem pos_z {w : World} {m cap : Nat} {ao : Option Addr} {us : List Int} {iz : Int} {v : Bool} (i : Nat) (h : MD w m ao cap us) (hi : i < us.length) (hiz : iz = (i : Int)) (hv : (us.getD i 0 % 2 == 1) = v) :
    Calls Tryf.prog 15 #[.pointer (some ⟨m, 0, none⟩), .int .i64 iz] w fun e w' => e = .returned (.bool v) ∧ w = w' := by subst hiz; exact isPos_is i v h hi (Lib.hid hv)
theorem capW_small {n : Nat} (h : n ≤ 131072) : capW (n : Int) / 2 = n := by unfold capW; omega
theorem cap_sum {a b : Nat} (h : a + b ≤ 131072) : capW ((a + b : Nat) : Int) / 2 = (a : Int) + (b : Int) := by rw [capW_small h]; exact Int.natCast_add _ _
theorem allPlain_is (s : ByteArray) (w : World) (hs : s.size ≤ 4194304) {v : Bool} (hv : Hid ((bz s).all plainZ = v)) : Calls Tryf.prog 8 #[.string s] w fun e w' => e = .returned (.bool v) ∧ w = w' := hv.out ▸ allPlain_any s w hs
theorem kept_is {m n : Nat} {first : Bool} {limit : Int} (w : World) (hm : m ≤ 4611686018427387904) (hn : Hid (kept m first limit = n)) : Calls Tryf.prog 19 #[.int .i64 m, .bool first, .int .i64 limit] w fun e w' => e = .returned (.int .i64 n) ∧ w = w' := hn.out ▸ kept_any m first limit w hm
/-- The two words of a match. -/
theorem two_words {w : World} {m c : Nat} {ao : Option Addr} {a b : Nat} (h : MD w m ao c [capW (a : Int), capW (b : Int)]) (ha : a ≤ 131072) (hb : b ≤ 131072) : ∃ us, MD w m ao c us ∧ us.length = 2 ∧ (us.getD 0 0 % 2 == 1) = false ∧ (us.getD 1 0 % 2 == 1) = false ∧ us.getD 0 0 / 2 = (a : Int) ∧ us.getD 1 0 / 2 = (b : Int) :=
  ⟨_, h, rfl, capW_flag _, capW_flag _, capW_small ha, capW_small hb⟩
/-- The first place and whether it is the offset. -/
theorem lit_first {src L : List Int} {off : Nat} {S : List Nat} (h : litStarts src L off = S) : ∃ fb r, (decide (off ≤ src.length) && occ src L off) = fb ∧ ((0 < S.length ∧ S.getD 0 0 = r ∧ ((r : Int) == (off : Int)) = fb) ∨ (S.length = 0 ∧ fb = false)) := by
  rcases starts_first src L off with ⟨R, h1, h2⟩ | ⟨h1, h2⟩ | ⟨r, R, h1, h2, h3⟩
  · exact ⟨true, off, h2, .inl ⟨by rw [← h, h1]; simp, by rw [← h, h1]; rfl, by simp⟩⟩
  · exact ⟨false, 0, h2, .inr ⟨by rw [← h, h1]; rfl, rfl⟩⟩
  · exact ⟨false, r, h3, .inl ⟨by rw [← h, h1]; simp, by rw [← h, h1]; rfl, by rw [beq_eq_false_iff_ne]; omega⟩⟩
theorem lit_len' (src L : List Int) : ∀ (k i : Nat), src.length + 1 - i ≤ k → (litStarts src L i).length ≤ src.length + 1 - i
  | k, i, hk => by
    by_cases h : src.length < i
    · rw [starts_end h]; exact Nat.zero_le _
    · cases k with
      | zero => omega
      | succ k =>
        cases ho : occ src L i with
        | true =>
          rw [starts_yes (by omega) ho, List.length_cons]
          split
          · rename_i h0
            have := lit_len' src L k (i + L.length) (by omega)
            omega
          · have := lit_len' src L k (i + 1) (by omega)
            omega
        | false =>
          rw [starts_no (by omega) ho]
          have := lit_len' src L k (i + 1) (by omega)
          omega
theorem lit_len (src L : List Int) (off : Nat) (h : src.length ≤ 65536) : (litStarts src L off).length ≤ 65537 := by
  have := lit_len' src L _ off (Nat.le_refl _); omega
theorem runs_len' (src : List Int) : ∀ (k i : Nat), src.length - i ≤ k → (digRuns src i).length ≤ src.length - i
  | k, i, hk => by
    by_cases h : src.length ≤ i
    · rw [runs_end h]; exact Nat.zero_le _
    · cases k with
      | zero => omega
      | succ k =>
        cases ho : dgAt src i with
        | true =>
          have hl := runEnd_lt ho
          have := runs_len' src k (runEnd src i) (by omega)
          rw [runs_yes ho, List.length_cons]
          omega
        | false =>
          have := runs_len' src k (i + 1) (by omega)
          rw [runs_no (by omega) ho]
          omega
theorem runs_len (src : List Int) (off : Nat) (h : src.length ≤ 65536) : (digRuns src off).length ≤ 65537 := by
  have := runs_len' src _ off (Nat.le_refl _); omega

end Go.Proofs.YtankjgbcpdodgaaFmt
