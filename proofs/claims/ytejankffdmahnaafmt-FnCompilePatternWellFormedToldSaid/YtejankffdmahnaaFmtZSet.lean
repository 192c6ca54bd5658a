/-
  The contract of n005_60's zzSet: it accepts a set's body exactly where accSet does. Its condition: the place is not negative; the pattern has at most 2^22 bytes.
-/
import Derived.Test.YtejankffdmahnaaFmtScan
import Derived.Test.YtejankffdmahnaaFmtEsc
import Derived.Deep.LoopGhost
import Derived.Deep.MidRow
import Derived.Laws.Rows
namespace Go.Proofs.YtejankffdmahnaaFmt
open Go.RowKit
set_option linter.unusedVariables false
set_option linter.unusedSimpArgs false

/-- Where a set's body that starts at the cursor c ends (behind its ']'), if it ends; ne: an element stands already. -/
def accSet (zs : List Int) (c : Nat) (ne : Bool) : Option Nat :=
  if zs.length ≤ c then none
  else if chr zs c = 93 ∧ ne = true then some (c + 1)
  else if chr zs c = 45 ∧ ne = true then accSet zs (c + 1) true
  else accSet zs (if chr zs c = 37 then c + 2 else c + 1) true
termination_by zs.length - c
decreasing_by
  · omega
  · split <;> omega
theorem accSet_end {zs : List Int} {c : Nat} {ne : Bool} (h : zs.length ≤ c) : accSet zs c ne = none := by unfold accSet; rw [if_pos h]
theorem accSet_close {zs : List Int} {c : Nat} (h : c < zs.length) (hz : chr zs c = 93) : accSet zs c true = some (c + 1) := by unfold accSet; rw [if_neg (by omega), if_pos ⟨hz, rfl⟩]
theorem accSet_dash {zs : List Int} {c : Nat} (h : c < zs.length) (hz : chr zs c = 45) : accSet zs c true = accSet zs (c + 1) true := by
  rw [accSet, if_neg (by omega), if_neg (by rw [hz]; simp), if_pos ⟨hz, rfl⟩]
theorem accSet_el {zs : List Int} {c : Nat} {ne : Bool} (h : c < zs.length) (h1 : ¬ (chr zs c = 93 ∧ ne = true)) (h2 : ¬ (chr zs c = 45 ∧ ne = true)) : accSet zs c ne = accSet zs (if chr zs c = 37 then c + 2 else c + 1) true := by
  rw [accSet, if_neg (by omega), if_neg h1, if_neg h2]

/-- The bytes of a string as numbers. -/
def bz (s : ByteArray) : List Int := s.data.toList.map fun b => (b.toNat : Int)
theorem bz_length (s : ByteArray) : (bz s).length = s.size := by simp [bz]
theorem bz_chr (s : ByteArray) (c : Nat) (h : c < s.size) : chr (bz s) c = (s[c].toNat : Int) := by
  have h1 : c < s.data.toList.length := by simpa using h
  unfold chr
  rw [if_pos (by rw [bz_length]; exact h), List.getD_eq_getElem?_getD]
  simp only [bz, List.getElem?_map, List.getElem?_eq_getElem h1, Option.map_some, Option.getD_some]
  rfl
/-- A block of 256 bools. -/
def T256 (w : World) (b : Nat) : Prop := ∃ cs : Array Value, cs.size = 256 ∧ w.heap[b]? = some (.cells cs 23 (0, 0)) ∧ ∀ v ∈ cs, ∃ x : Bool, v = .bool x
/-- The cells of the items. -/
def sic (l : List (Int × Int × Int)) : List Value := l.flatMap fun p => [.int .i64 p.1, .int .i64 p.2.1, .int .i64 p.2.2]
theorem sic_append (l : List (Int × Int × Int)) (p : Int × Int × Int) : sic (l ++ [p]) = sic l ++ [.int .i64 p.1, .int .i64 p.2.1, .int .i64 p.2.2] := by simp [sic]
theorem item_info : (Tryf.prog.info? 44).map (fun i => (i.zero, i.size, i.bytes)) = some (some (.agg #[.int .i64 0, .int .i64 0, .int .i64 0]), 3, 24) := by kernel_rfl

/-- The zero value of a row of 256 bools. -/
def zT : Array Value := Array.replicate 256 (.bool false)
@[go_sem] theorem zero256 (w : World) : (zeroValue 23).run Tryf.prog w = .ok (.agg zT) w := by kernel_rfl
theorem T256.new (w : World) : T256 (w.alloc (.cells zT 23)) w.heap.size :=
  ⟨zT, by simp [zT], blk_new _ _, fun v hv => ⟨false, by simp [zT] at hv; exact hv⟩⟩

theorem zown_kept {w w' : World} {B : Nat} {T : TypeId} {sz : Nat} {ao : Option Addr} {n cap : Nat} {xs : List Value} (ho : w.ownsRow B T sz (.slice ao n cap) n xs) (hk : ∀ g, B ≤ g → g < w.heap.size → w'.heap[g]? = w.heap[g]?) : w'.ownsRow B T sz (.slice ao n cap) n xs := by
  refine ⟨ho.1, ?_⟩
  rcases ho.2 with h2 | ⟨g, c, cur, h1, hb, hg, r⟩
  · exact .inl h2
  · exact .inr ⟨g, c, cur, h1, hb, (hk g hb (blk_lt hg)).trans hg, r⟩
theorem T256.kept {w w' : World} {b : Nat} (h : T256 w b) (hk : w'.heap[b]? = w.heap[b]?) : T256 w' b := by
  obtain ⟨cs, h1, h2, h3⟩ := h
  exact ⟨cs, h1, hk.trans h2, h3⟩
theorem T256.lt {w : World} {b : Nat} (h : T256 w b) : b < w.heap.size := by
  obtain ⟨cs, h1, h2, h3⟩ := h
  exact blk_lt h2
theorem T256.below {w w' : World} {b B : Nat} (h : T256 w b) (hb : Below B w w') (hB : b < B) : T256 w' b := h.kept (hb.block b hB)
theorem T256.alloc {w : World} {b : Nat} (h : T256 w b) (o : Obj) : T256 (w.alloc o) b := h.kept (Below.heap_alloc w o b h.lt)
theorem T256.set {w : World} {b : Nat} (h : T256 w b) (i : Nat) (x : Bool) : T256 (w.setCell ⟨b, i, none⟩ (.bool x)) b := by
  obtain ⟨cs, h1, h2, h3⟩ := h
  refine ⟨cs.setIfInBounds i (.bool x), by simpa using h1, blk_set h2 i _, fun v hv => ?_⟩
  rcases Array.mem_or_eq_of_mem_setIfInBounds hv with hv | hv
  · exact h3 v hv
  · exact ⟨x, hv⟩
theorem T256.setFar {w : World} {b : Nat} (h : T256 w b) {p : Addr} (hp : b ≠ p.block) (v : Value) : T256 (w.setCell p v) b := h.kept (Below.heap_setCell w p v b hp)
theorem T256.cell {w : World} {b : Nat} (h : T256 w b) {i : Nat} (hi : i < 256) : ∃ x : Bool, w.cell? ⟨b, i, none⟩ = some (.bool x) := by
  obtain ⟨cs, h1, h2, h3⟩ := h
  obtain ⟨x, hx⟩ := h3 cs[i] (Array.getElem_mem _)
  exact ⟨x, blk_cell h2 i _ (by rw [Array.getElem?_eq_getElem (by omega), hx])⟩
theorem T256.free {w : World} {b : Nat} (h : T256 w b) (i : Nat) : w.frozen? ⟨b, i, none⟩ = false := by
  obtain ⟨cs, h1, h2, h3⟩ := h
  exact blk_free h2 i
theorem T256.sets {b : Nat} : ∀ (vs : List Value) (o : Nat) (w : World), T256 w b → (∀ v ∈ vs, ∃ x : Bool, v = .bool x) → T256 (w.setCells b o vs) b
  | [], o, w, h, _ => h
  | v :: vs, o, w, h, hv => by
    obtain ⟨x, rfl⟩ := hv v (by simp)
    exact T256.sets vs (o + 1) _ (h.set o x) (fun u hu => hv u (by simp [hu]))
theorem below_sets {b B : Nat} (hB : B ≤ b) : ∀ (vs : List Value) (o : Nat) (a w : World), Below B a w → Below B a (w.setCells b o vs)
  | [], o, a, w, h => h
  | v :: vs, o, a, w, h => below_sets hB vs (o + 1) a _ (h.setCell hB v)
theorem zresults {tmps : Array Value} {w : World} {g : Nat} {cs : Array Value} {j : Int} {ok : Bool} (hp : tmps.getD 4 undef = .pointer (some ⟨g, 0, none⟩)) (h5 : tmps.getD 5 undef = .int .i64 j) (h6 : tmps.getD 6 undef = .bool ok)
    (hg : w.heap[g]? = some (.cells cs 23 (0, 0))) (h256 : cs.size = 256) : (results Tryf.f6 tmps).run Tryf.prog w = .ok (.tuple #[.agg cs, .int .i64 j, .bool ok]) w := by
  have hp' : tmps[4]?.getD undef = .pointer (some ⟨g, 0, none⟩) := by simpa using hp
  have h5' : tmps[5]?.getD undef = .int .i64 j := by simpa using h5
  have h6' : tmps[6]?.getD undef = .bool ok := by simpa using h6
  have hl := run_loadVar_row (P := Tryf.prog) w g 23 23 cs (0, 0) _ hg Tryf.underlying23 rfl (by rw [h256]; kernel_rfl)
  simp [results, Tryf.results6, hp', h5', h6', asAddr, hl]
/-- Whether the body is a complement. -/
def negB (s : ByteArray) (i : Nat) : Bool := if h : i < s.size then ((s[i].toNat : Int) == 94) else false
def stS (s : ByteArray) (i : Nat) : Nat := if negB s i then i + 1 else i
theorem negB_lt {s : ByteArray} {i : Nat} (h : i < s.size) : negB s i = ((s[i].toNat : Int) == 94) := by unfold negB; rw [dif_pos h]
theorem negB_ge {s : ByteArray} {i : Nat} (h : ¬ i < s.size) : negB s i = false := by unfold negB; rw [dif_neg h]
theorem stS_le {s : ByteArray} {i : Nat} (h : i ≤ s.size) : stS s i ≤ s.size := by
  unfold stS
  by_cases hi : i < s.size
  · split <;> omega
  · rw [negB_ge hi, if_neg (by simp)]; exact h
def zEnd : Option Nat → Int
  | some c => (c : Int) - 1
  | none => 0
theorem T256.there {w : World} {b : Nat} (h : T256 w b) : w.there b 0 256 := fun j hj => by
  obtain ⟨x, hx⟩ := h.cell hj
  rw [Nat.zero_add, hx]
  exact ⟨rfl, h.free j⟩
theorem Bools.one {cs : Array Value} (h : Hid (∀ v ∈ cs, ∃ x : Bool, v = .bool x)) : cs.all (·.oneCell') = true := Array.all_eq_true_iff_forall_mem.2 fun v hv => by
  obtain ⟨x, rfl⟩ := h.out v hv
  rfl
theorem zrow_ne {w : World} {B : Nat} {T : TypeId} {sz : Nat} {ao : Option Addr} {n cap : Nat} {xs : List Value} (ho : w.ownsRow B T sz (.slice ao n cap) n xs) : ∀ g, blkOf ao = some g → B ≤ g := by
  intro g hg
  rcases ho.2 with ⟨h1, h2⟩ | ⟨g', c', cur, h1, hb, hh, _⟩
  · simp only [Value.slice.injEq] at h1; rw [h1.1] at hg; simp [blkOf] at hg
  · simp only [Value.slice.injEq] at h1
    rw [h1.1] at hg
    simp only [blkOf, Option.map_some, Option.some.injEq] at hg
    omega
theorem zpush_t {w w1 : World} {b B : Nat} {o o' : Obj} {ao : Option Addr} (h : T256 w b) (hg : ((w.alloc o).alloc o').grownBy w1 (blkOf ao)) (hr : ∀ g, blkOf ao = some g → B ≤ g) (hb : b < B) : T256 w1 b :=
  ((h.alloc o).alloc o').kept (hg.block b ((h.alloc o).alloc o').lt (fun e => by have := hr b e.symm; omega))
theorem below_grown {B : Nat} {a w w1 : World} {row : Option Nat} (h : Below B a w) (hB : B ≤ a.heap.size) (hg : w.grownBy w1 row) (hr : ∀ g, row = some g → B ≤ g) : Below B a w1 :=
  ⟨hg.os.trans h.os, hg.tape.trans h.tape, hg.output.trans h.output, Nat.le_trans h.size hg.size, fun i hi => (hg.block i (Nat.lt_of_lt_of_le hi (Nat.le_trans hB h.size)) (fun e => by have := hr i e.symm; omega)).trans (h.block i hi)⟩
theorem zpush_b {a w w1 : World} {B : Nat} {o o' : Obj} {ao : Option Addr} (h : Below a.heap.size a w) (hg : ((w.alloc o).alloc o').grownBy w1 (blkOf ao)) (hr : ∀ g, blkOf ao = some g → B ≤ g) (hb : a.heap.size ≤ B) : Below a.heap.size a w1 :=
  below_grown ((h.alloc h.size o).alloc (Nat.le_trans h.size (by simp)) o') (Nat.le_refl _) hg (fun g hg => by have := hr g hg; omega)
theorem zpush_t2 {w w1 : World} {b B : Nat} {o1 o2 o3 o4 : Obj} {ao : Option Addr} (h : T256 w b) (hg : ((((w.alloc o1).alloc o2).alloc o3).alloc o4).grownBy w1 (blkOf ao)) (hr : ∀ g, blkOf ao = some g → B ≤ g) (hb : b < B) : T256 w1 b :=
  zpush_t ((h.alloc o1).alloc o2) hg hr hb
theorem zpush_b2 {a w w1 : World} {B : Nat} {o1 o2 o3 o4 : Obj} {ao : Option Addr} (h : Below a.heap.size a w) (hg : ((((w.alloc o1).alloc o2).alloc o3).alloc o4).grownBy w1 (blkOf ao)) (hr : ∀ g, blkOf ao = some g → B ≤ g) (hb : a.heap.size ≤ B) : Below a.heap.size a w1 :=
  zpush_b ((h.alloc h.size o1).alloc (Nat.le_trans h.size (by simp)) o2) hg hr hb
theorem zpush_t1 {w w1 : World} {b B : Nat} {o : Obj} {ao : Option Addr} (h : T256 w b) (hg : (w.alloc o).grownBy w1 (blkOf ao)) (hr : ∀ g, blkOf ao = some g → B ≤ g) (hb : b < B) : T256 w1 b :=
  (h.alloc o).kept (hg.block b (h.alloc o).lt (fun e => by have := hr b e.symm; omega))
theorem zpush_b1 {a w w1 : World} {B : Nat} {o : Obj} {ao : Option Addr} (h : Below a.heap.size a w) (hg : (w.alloc o).grownBy w1 (blkOf ao)) (hr : ∀ g, blkOf ao = some g → B ≤ g) (hb : a.heap.size ≤ B) : Below a.heap.size a w1 :=
  below_grown (h.alloc h.size o) (Nat.le_refl _) hg (fun g hg => by have := hr g hg; omega)
def ZPost (w : World) (r : Option Nat) (e : Ending) (w' : World) : Prop :=
  ∃ cs : Array Value, cs.size = 256 ∧ (∀ v ∈ cs, ∃ x : Bool, v = .bool x) ∧ Below w.heap.size w w' ∧ e = .returned (.tuple #[.agg cs, .int .i64 (zEnd r), .bool r.isSome])
def ZRel (s : ByteArray) (w : World) (B : Nat) (r : Option Nat) (k : Nat) (vi vt vp : Value) (wr : World) : Prop :=
  ∃ (c : Nat) (its : List (Int × Int × Int)) (ao : Option Addr) (cap : Nat) (pd : Bool), k = s.size - c ∧ vi = .int .i64 c ∧ vt = .slice ao its.length cap ∧ vp = .bool pd ∧ wr.ownsRow (B + 1 + 1) 44 3 (.slice ao its.length cap) its.length (sic its) ∧
    T256 wr (B + 1) ∧ T256 wr B ∧ Below B w wr ∧ accSet (bz s) c (decide (0 < its.length)) = r ∧ c ≤ s.size ∧ its.length ≤ c ∧ (pd = true → 0 < its.length)

theorem news_l {W : World} {l : List Value} {T : TypeId} {n : Nat} (h : W.heap.size = n) : ∀ (j : Nat) (u : Value), l[j]? = some u → (W.alloc (.cells l.toArray T)).cell? ((⟨n, 0, none⟩ : Addr).add j) = some u := by
  subst h
  intro j u hj
  rw [addr_add, Nat.zero_add]
  exact blk_cell (blk_new _ _) j _ (by simpa using hj)
theorem sic_length (l : List (Int × Int × Int)) : (sic l).length = l.length * 3 := by
  induction l with
  | nil => rfl
  | cons p l ih => rw [show p :: l = [p] ++ l from rfl]; simp only [sic, List.flatMap_append, List.length_append] at *; rw [ih]; simp; omega
theorem sic_get (l : List (Int × Int × Int)) (k : Nat) (p : Int × Int × Int) (h : l[k]? = some p) : (sic l)[k * 3]? = some (.int .i64 p.1) ∧ (sic l)[k * 3 + 1]? = some (.int .i64 p.2.1) ∧ (sic l)[k * 3 + 2]? = some (.int .i64 p.2.2) := by
  have hk : k < l.length := (List.getElem?_eq_some_iff.1 h).1
  have hl : l = l.take k ++ (p :: l.drop (k + 1)) := by
    have h1 : l[k] = p := by rw [List.getElem?_eq_getElem hk] at h; injection h
    rw [← h1, ← List.drop_eq_getElem_cons hk, List.take_append_drop]
  have hs : sic l = sic (l.take k) ++ ([.int .i64 p.1, .int .i64 p.2.1, .int .i64 p.2.2] ++ sic (l.drop (k + 1))) := by
    conv => lhs; rw [hl]
    simp [sic]
  have hn : (sic (l.take k)).length = k * 3 := by rw [sic_length, List.length_take]; congr 1; omega
  refine ⟨?_, ?_, ?_⟩
  · rw [hs, List.getElem?_append_right (by omega), hn, show k * 3 - k * 3 = 0 by omega]; rfl
  · rw [hs, List.getElem?_append_right (by omega), hn, show k * 3 + 1 - k * 3 = 1 by omega]; rfl
  · rw [hs, List.getElem?_append_right (by omega), hn, show k * 3 + 2 - k * 3 = 2 by omega]; rfl
theorem sic_take (l : List (Int × Int × Int)) (k : Nat) : (sic l).take (k * 3) = sic (l.take k) := by
  rcases Nat.lt_or_ge k l.length with hk | hk
  · have hs : sic l = sic (l.take k) ++ sic (l.drop k) := by
      conv => lhs; rw [← List.take_append_drop k l]
      simp only [sic, List.flatMap_append]
    have hn : (sic (l.take k)).length = k * 3 := by rw [sic_length, List.length_take]; congr 1; omega
    rw [hs, ← hn, List.take_left']
    rfl
  · rw [List.take_of_length_le (by rw [sic_length]; omega), List.take_of_length_le hk]
theorem zown_cap {w : World} {B : Nat} {T : TypeId} {sz : Nat} {ao : Option Addr} {n cap : Nat} {xs : List Value} (ho : w.ownsRow B T sz (.slice ao n cap) n xs) : n ≤ cap := by
  rcases ho.2 with ⟨h1, h2⟩ | ⟨g, c, cur, h1, hb, hg, hn, _⟩
  · omega
  · simp only [Value.slice.injEq] at h1; rw [h1.2.2]; exact hn
theorem zrow_lt {w : World} {B : Nat} {T : TypeId} {sz : Nat} {g n cap o : Nat} {xs : List Value} (ho : w.ownsRow B T sz (.slice (some ⟨g, 0, none⟩) n cap) n xs) : (⟨g, o, none⟩ : Addr).block < w.heap.size := by
  rcases ho.2 with ⟨h1, h2⟩ | ⟨g', c, cur, h1, hb, hg, _⟩
  · simp at h1
  · simp only [Value.slice.injEq, Option.some.injEq, Addr.mk.injEq, and_true] at h1
    rw [← h1.1] at hg
    exact blk_lt hg
theorem zown_take {w : World} {B : Nat} {T : TypeId} {sz : Nat} {g n cap k : Nat} {xs : List Value} (ho : w.ownsRow B T sz (.slice (some ⟨g, 0, none⟩) n cap) n xs) (hk : k ≤ n) : w.ownsRow B T sz (.slice (some ⟨g, 0, none⟩) k cap) k (xs.take (k * sz)) := by
  have hx := ho.1
  rcases ho.2 with ⟨h1, h2⟩ | ⟨g', c, cur, h1, hb, hg, hn, hm, hs, hxs⟩
  · simp at h1
  · simp only [Value.slice.injEq, Option.some.injEq, Addr.mk.injEq, and_true] at h1
    obtain ⟨rfl, -, rfl⟩ := h1
    refine ⟨by rw [List.length_take, hx, Nat.min_eq_left (Nat.mul_le_mul_right _ hk)], .inr ⟨g, cap, cur, rfl, hb, hg, by omega, hm, hs, ?_⟩⟩
    rw [← hxs, List.take_take, Nat.min_eq_left (Nat.mul_le_mul_right _ hk)]
set_option maxHeartbeats 8000000 in
set_option maxRecDepth 100000 in
theorem zset_any (s : ByteArray) (i : Nat) (w : World) (hs : s.size ≤ 4194304) (hi : i ≤ s.size) : Calls Tryf.prog 6 #[.string s, .int .i64 i] w (ZPost w (accSet (bz s) (stS s i) false)) := by
  obtain ⟨nb, hnb⟩ : ∃ nb, negB s i = nb := ⟨_, rfl⟩
  obtain ⟨c0, hc0⟩ : ∃ c0, stS s i = c0 := ⟨_, rfl⟩
  obtain ⟨r, hr⟩ : ∃ r, accSet (bz s) c0 false = r := ⟨_, rfl⟩
  rw [hc0, hr]
  have HNB := Lib.hid hnb
  have HC0 := Lib.hid hc0
  have HR := Lib.hid hr
  have hc0s : c0 ≤ s.size := by
    rw [← hc0]; exact stS_le hi
  have HT0 := Lib.hid ((T256.new w).alloc (.cells zT 23))
  have HT1 := Lib.hid (T256.new (w.alloc (.cells zT 23)))
  have HW := Lib.hid (((Below.refl w.heap.size w).alloc (Nat.le_refl _) (.cells zT 23)).alloc (by simp) (.cells zT 23))
  have hsz : ((w.alloc (.cells zT 23)).alloc (.cells zT 23)).heap.size = w.heap.size + 1 + 1 := by simp
  have HSZ := Lib.hid hsz
  obtain ⟨i0, hit, hz0, hz1, hz2⟩ := info_parts item_info
  clear hnb hc0 hr hsz
  go_enter Tryf.func6, Tryf.ntmps6
  go_upto_region 4 with (fail)
  generalize (w.alloc (.cells zT 23)).alloc (.cells zT 23) = W at *
  go_cut [30] (fun v wc => v = .bool nb ∧ W = wc)
  case first =>
    go_wp2_with fail
    all_goals
      go_meet
      case rel => exact ⟨by first | exact congrArg Value.bool ((negB_lt (by assumption)).symm.trans HNB.out) | exact congrArg Value.bool ((negB_ge (by assumption)).symm.trans HNB.out), rfl⟩
  obtain ⟨rfl, rfl⟩ := hcut
  go_upto_if 30 with (fail)
  go_cut [1, 9] (fun v n wc => v = .int .i64 c0 ∧ (∃ q : Bool, n = .bool q) ∧ W = wc)
  case first =>
    cases nb
    all_goals
      go_wp2_with fail
      go_meet
      case rel => exact ⟨by rw [← HC0.out]; unfold stS; rw [HNB.out]; simp, ⟨_, rfl⟩, rfl⟩
  obtain ⟨rfl, ⟨nq, rfl⟩, rfl⟩ := hcut
  go_wp2_with fail
  go_loopg [1, 10, 11] (s.size - c0) (fun k vi vt vp wr => ZRel s w w.heap.size r k vi vt vp wr)
  case atStart =>
    exact ⟨c0, [], none, 0, false, rfl, rfl, rfl, rfl, ⟨rfl, .inl ⟨rfl, rfl⟩⟩, by simpa using HT1.out, HT0.out, HW.out, by simpa using HR.out, hc0s, Nat.zero_le _, fun h => by cases h⟩
  case round =>
    obtain ⟨c, its, ao, cap, pd, rfl, rfl, rfl, rfl, hown, ht1, ht0, hb, hr, hc, hl, hp⟩ := hrel
    have HOWN := Lib.hid hown
    have HT1 := Lib.hid ht1
    have HT0 := Lib.hid ht0
    have HBL := Lib.hid hb
    have HR := Lib.hid hr
    have HP := Lib.hid hp
    clear hown ht1 ht0 hb hr hp
    by_cases hlt : c < s.size
    · have HC : Hid (chr (bz s) c = (s[c].toNat : Int)) := Lib.hid (bz_chr s c hlt)
      have hb255 : s[c].toNat < 256 := UInt8.toNat_lt _
      rcases (show (s[c].toNat = 93 ∧ 0 < its.length) ∨ (s[c].toNat = 45 ∧ 0 < its.length) ∨ (s[c].toNat = 93 ∧ its.length ≤ 0) ∨ (s[c].toNat = 45 ∧ its.length ≤ 0) ∨ (s[c].toNat ≠ 93 ∧ s[c].toNat ≠ 45) by omega) with ⟨hz, h0⟩ | ⟨hz, h0⟩ | hel
      · have T1 := Lib.hid (show ((s[c].toNat : Int) == 93) = true by rw [beq_iff_eq]; omega)
        have HRv : Hid (some (c + 1) = r) := Lib.hid (by
          have h := HR.out
          rw [decide_eq_true h0, accSet_close (by rw [bz_length]; exact hlt) (by rw [HC.out, hz]; rfl)] at h
          exact h)
        have t1 := T1.out
        clear hz T1 HW HSZ
        have hbw : w.heap.size + 1 + 1 ≤ wr.heap.size := by have := HT1.out.lt; omega
        go_upto_if 121 with (fail)
        go_cut [10] (fun v wc => ∃ (its' : List (Int × Int × Int)) (ao' : Option Addr) (cap' : Nat), v = .slice ao' its'.length cap' ∧ Hid (wc.ownsRow (w.heap.size + 1 + 1) 44 3 (.slice ao' its'.length cap') its'.length (sic its')) ∧ Hid (T256 wc (w.heap.size + 1)) ∧ Hid (T256 wc w.heap.size) ∧ Hid (Below w.heap.size w wc) ∧ its'.length ≤ 8388608)
        case first =>
          cases pd with
          | false =>
            go_wp2_with fail
            go_meet
            case rel => exact ⟨its, ao, cap, rfl, HOWN, HT1, HT0, HBL, by omega⟩
          | true =>
            go_wp2_with (at_builtin; refine wpList_push _ rfl (.tmp 122) (.tmp 124) 42 rfl (w.heap.size + 1 + 1) 44 i0 (.agg #[.int .i64 0, .int .i64 0, .int .i64 0]) 3 24 Tryf.underlying42 hit hz0 hz1 hz2 rfl (by decide) _ its.length _ (sic its) rfl (HOWN.out.alloc _) ⟨wr.heap.size, 0, none⟩ 1 1 [.int .i64 0, .int .i64 45, .int .i64 45] rfl rfl (news_l (by simp)) (by simp [Value.oneCell']) (by decide) (by unfold maxLen; omega) (by omega) (by simp; omega) ?_; intro g1 c1 w1 hown1 hgrow hwhere; have HO1 := Lib.hid hown1; have HGw := Lib.hid hgrow; clear hown1 hgrow hwhere)
            go_meet
            case rel =>
              refine ⟨its ++ [(0, 45, 45)], some ⟨g1, 0, none⟩, c1, by rw [List.length_append]; rfl, Lib.hid ?_, Lib.hid (zpush_t1 HT1.out HGw.out (zrow_ne HOWN.out) (by omega)), Lib.hid (zpush_t1 HT0.out HGw.out (zrow_ne HOWN.out) (by omega)), Lib.hid (zpush_b1 HBL.out HGw.out (zrow_ne HOWN.out) (by omega)), by rw [List.length_append]; simp; omega⟩
              rw [List.length_append, sic_append]; exact HO1.out
        obtain ⟨its', ao', cap', rfl, HO, HP1, HP0, HPB, hl8⟩ := hcut
        clear HOWN HT1 HT0 HBL HP HR
        go_wp2_with fail
        go_loopg [17] 256 (fun k vch wv => ∃ ch : Nat, k = 256 - ch ∧ vch = .int .i64 ch ∧ ch ≤ 256 ∧ Hid (wv.ownsRow (w.heap.size + 1 + 1) 44 3 (.slice ao' its'.length cap') its'.length (sic its')) ∧ Hid (T256 wv (w.heap.size + 1)) ∧ Hid (T256 wv w.heap.size) ∧ Hid (Below w.heap.size w wv))
        case atStart => exact ⟨0, rfl, rfl, by omega, HO, HP1, HP0, HPB⟩
        case round =>
          obtain ⟨ch, rfl, rfl, hch, HQ, HQ1, HQ0, HQB⟩ := hrel
          by_cases hc2 : ch < 256
          · clear HO HP1 HP0 HPB
            have tch : decide ((ch : Int) < 256) = true := decide_eq_true (by omega)
            go_wp2_with fail
            go_loopg [18, 19] its'.length (fun k vh vj wx => ∃ j : Nat, k = its'.length - j ∧ vh = .bool false ∧ vj = .int .i64 j ∧ j ≤ its'.length ∧ Hid (wx.ownsRow (w.heap.size + 1 + 1) 44 3 (.slice ao' its'.length cap') its'.length (sic its')) ∧ Hid (T256 wx (w.heap.size + 1)) ∧ Hid (T256 wx w.heap.size) ∧ Hid (Below w.heap.size w wx))
            case atStart => exact ⟨0, rfl, rfl, rfl, Nat.zero_le _, HQ, HQ1, HQ0, HQB⟩
            case round =>
              obtain ⟨j, rfl, rfl, rfl, hj, HX, HX1, HX0, HXB⟩ := hrel
              clear HQ HQ1 HQ0 HQB
              by_cases hjl : j < its'.length
              · obtain ⟨g, rfl⟩ : ∃ g, ao' = some ⟨g, 0, none⟩ := by
                  rcases HX.out.2 with ⟨h1, h2⟩ | ⟨g, c', cur, h1, _⟩
                  · omega
                  · simp only [Value.slice.injEq] at h1; exact ⟨g, h1.1⟩
                obtain ⟨⟨k0, l0, h0'⟩, hget⟩ : ∃ b, its'[j]? = some b := ⟨its'[j], List.getElem?_eq_getElem _⟩
                obtain ⟨q0, q1, q2⟩ := sic_get its' j _ hget
                have a0 : wr.cell? ⟨g, j * 3, none⟩ = some (.int .i64 k0) := (HX.out.cellAt (j * 3) (by omega)).trans q0
                have a1 : wr.cell? ⟨g, j * 3 + 1, none⟩ = some (.int .i64 l0) := (HX.out.cellAt (j * 3 + 1) (by omega)).trans q1
                have a2 : wr.cell? ⟨g, j * 3 + 2, none⟩ = some (.int .i64 h0') := (HX.out.cellAt (j * 3 + 2) (by omega)).trans q2
                clear hget q0 q1 q2
                go_wp2_with fail
                refine (item_any _ _ _ _ _).mono ?_
                rintro e wy ⟨v, rfl, hb⟩
                have HY := Lib.hid (zown_kept HX.out (fun q _ hq => hb.block q hq))
                have HY1 := Lib.hid (HX1.out.below hb HX1.out.lt)
                have HY0 := Lib.hid (HX0.out.below hb HX0.out.lt)
                have HYB := Lib.hid (HXB.out.trans (hb.mono HXB.out.size))
                obtain ⟨xb, hxb⟩ := HY1.out.cell hc2
                have hfr := HY1.out.free ch
                clear hb HX HX1 HX0 HXB a0 a1 a2
                cases v with
                | true =>
                  go_wp2_with fail
                  go_roundg (256 - (ch + 1))
                  case measure => omega
                  case rel => exact ⟨ch + 1, rfl, rfl, by omega, Lib.hid (zown_kept HY.out (fun q hq _ => Below.heap_setCell _ _ _ _ (show q ≠ w.heap.size + 1 by omega))), Lib.hid (HY1.out.set _ _), Lib.hid (HY0.out.setFar (by simp) _), Lib.hid (HYB.out.setCell (by simp) _)⟩
                | false =>
                  go_wp2_with fail
                  go_roundg (its'.length - (j + 1))
                  case measure => omega
                  case rel => exact ⟨j + 1, rfl, rfl, rfl, by omega, HY, HY1, HY0, HYB⟩
              · obtain ⟨xb, hxb⟩ := HX1.out.cell hc2
                have hfr := HX1.out.free ch
                go_wp2_with fail
                go_roundg (256 - (ch + 1))
                case measure => omega
                case rel => exact ⟨ch + 1, rfl, rfl, by omega, Lib.hid (zown_kept HX.out (fun q hq _ => Below.heap_setCell _ _ _ _ (show q ≠ w.heap.size + 1 by omega))), Lib.hid (HX1.out.set _ _), Lib.hid (HX0.out.setFar (by simp) _), Lib.hid (HXB.out.setCell (by simp) _)⟩
          · obtain rfl : ch = 256 := by omega
            obtain ⟨cs, h256, hblk, hbool⟩ := HQ1.out
            have HK := Lib.hid hblk
            have H2 := Lib.hid h256
            have HBO := Lib.hid hbool
            clear hblk h256 hbool
            go_wp2_with (first | (refine wpList_load_row rfl 23 (.tmp 7) rfl (w.heap.size + 1) rfl 23 cs (0, 0) _ HK.out Tryf.underlying23 rfl (by rw [H2.out]; kernel_rfl) ?_) | (refine wpList_store_mid rfl 23 (.tmp 4) (.tmp 147) rfl w.heap.size 0 cs rfl rfl (by rw [H2.out]; exact HQ0.out.there) (by rw [H2.out]; kernel_rfl) (Bools.one HBO) ?_))
            obtain ⟨cs', h1, h2, h3⟩ := T256.sets cs.toList 0 _ HQ0.out (fun v hv => HBO.out v (by simpa using hv))
            refine bodyPost_ret (zresults rfl rfl rfl h2 h1) rfl ⟨cs', h1, h3, below_sets (Nat.le_refl _) _ _ _ _ HQB.out, ?_⟩
            rw [← HRv.out]
            simp [zEnd]
      · have t1 : ((s[c].toNat : Int) == 93) = false := by rw [beq_eq_false_iff_ne]; omega
        have t2 : ((s[c].toNat : Int) == 45) = true := by rw [beq_iff_eq]; omega
        have HR2 : Hid (accSet (bz s) (c + 1) (decide (0 < its.length)) = r) := Lib.hid (by
          have h := HR.out
          rw [decide_eq_true h0, accSet_dash (by rw [bz_length]; exact hlt) (by rw [HC.out, hz]; rfl)] at h
          rw [decide_eq_true h0]; exact h)
        clear hz
        go_wp2_with fail
        go_roundg (s.size - (c + 1))
        case measure => omega
        case rel => exact ⟨c + 1, its, ao, cap, true, rfl, rfl, rfl, rfl, HOWN.out, HT1.out, HT0.out, HBL.out, HR2.out, by omega, by omega, fun _ => h0⟩
      · have HR1 : Hid (accSet (bz s) (if chr (bz s) c = 37 then c + 2 else c + 1) true = r) := Lib.hid (by
          have h := HR.out
          rw [accSet_el (by rw [bz_length]; exact hlt) (by rw [HC.out, decide_eq_true_eq]; omega) (by rw [HC.out, decide_eq_true_eq]; omega)] at h
          exact h)
        rcases hel with ⟨hv, hw⟩ | ⟨hv, hw⟩ | ⟨hv, hw⟩
        · have T1 := Lib.hid (show ((s[c].toNat : Int) == 93) = true by rw [beq_iff_eq]; omega)
          have T2 := Lib.hid (show ((s[c].toNat : Int) == 45) = false by rw [beq_eq_false_iff_ne]; omega)
          have t1 := T1.out
          have t2 := T2.out
          have HV := Lib.hid hv
          clear hv T1 T2
          go_upto_if 63 with (fail)
          go_cut [1] (fun vc wc => ∃ (c' : Nat) (k lo hi : Int), vc = .int .i64 c' ∧ wr.alloc (.cells #[.int .i64 k, .int .i64 lo, .int .i64 hi] 44) = wc ∧ Hid (accSet (bz s) c' true = r) ∧ c < c' ∧ c' ≤ s.size)
          case first =>
            have hx : s[c].toNat ≠ 37 := by have := HV.out; omega
            · have t3 : ((s[c].toNat : Int) == 37) = false := by rw [beq_eq_false_iff_ne]; omega
              have HRc : Hid (accSet (bz s) (c + 1) true = r) := Lib.hid (by have h := HR1.out; rw [HC.out, if_neg (by omega)] at h; exact h)
              go_wp2_with fail
              go_meet
              case rel => exact ⟨c + 1, _, _, _, rfl, rfl, HRc, by omega, by omega⟩
          obtain ⟨c', k, lo, hi', rfl, rfl, HRc, hcc, hcs⟩ := hcut
          have hbw : w.heap.size + 1 + 1 ≤ wr.heap.size := by have := HT1.out.lt; omega
          clear HW HSZ
          have HSC := Lib.hid (sic_append its (k, lo, hi'))
          cases pd with
          | false =>
            go_wp2_with (at_builtin; refine wpList_push _ rfl (.tmp 81) (.tmp 83) 42 rfl (w.heap.size + 1 + 1) 44 i0 (.agg #[.int .i64 0, .int .i64 0, .int .i64 0]) 3 24 Tryf.underlying42 hit hz0 hz1 hz2 rfl (by decide) _ its.length _ (sic its) rfl ((HOWN.out.alloc _).alloc _) ⟨wr.heap.size + 1, 0, none⟩ 1 1 [.int .i64 k, .int .i64 lo, .int .i64 hi'] rfl rfl (news_l (by simp)) (by simp [Value.oneCell']) (by decide) (by unfold maxLen; omega) (by omega) (by simp; omega) ?_; intro g1 c1 w1 hown1 hgrow hwhere; have HO1 := Lib.hid hown1; have HGw := Lib.hid hgrow; have HWh := Lib.hid hwhere; clear hown1 hgrow hwhere)
            go_roundg (s.size - c')
            case measure => omega
            case rel =>
              refine ⟨c', its ++ [(k, lo, hi')], some ⟨g1, 0, none⟩, c1, false, rfl, rfl, by rw [List.length_append]; rfl, rfl, ?_, ?_, ?_, ?_, ?_, hcs, by rw [List.length_append]; simp; omega, fun h => by cases h⟩
              · rw [List.length_append, HSC.out]; exact HO1.out
              · exact zpush_t HT1.out HGw.out (zrow_ne HOWN.out) (by omega)
              · exact zpush_t HT0.out HGw.out (zrow_ne HOWN.out) (by omega)
              · exact zpush_b HBL.out HGw.out (zrow_ne HOWN.out) (by omega)
              · rw [List.length_append, decide_eq_true (by simp)]; exact HRc.out
          | true => exact absurd (HP.out rfl) (by omega)
        · have T1 := Lib.hid (show ((s[c].toNat : Int) == 93) = false by rw [beq_eq_false_iff_ne]; omega)
          have T2 := Lib.hid (show ((s[c].toNat : Int) == 45) = true by rw [beq_iff_eq]; omega)
          have t1 := T1.out
          have t2 := T2.out
          have HV := Lib.hid hv
          clear hv T1 T2
          go_upto_if 63 with (fail)
          go_cut [1] (fun vc wc => ∃ (c' : Nat) (k lo hi : Int), vc = .int .i64 c' ∧ wr.alloc (.cells #[.int .i64 k, .int .i64 lo, .int .i64 hi] 44) = wc ∧ Hid (accSet (bz s) c' true = r) ∧ c < c' ∧ c' ≤ s.size)
          case first =>
            have hx : s[c].toNat ≠ 37 := by have := HV.out; omega
            · have t3 : ((s[c].toNat : Int) == 37) = false := by rw [beq_eq_false_iff_ne]; omega
              have HRc : Hid (accSet (bz s) (c + 1) true = r) := Lib.hid (by have h := HR1.out; rw [HC.out, if_neg (by omega)] at h; exact h)
              go_wp2_with fail
              go_meet
              case rel => exact ⟨c + 1, _, _, _, rfl, rfl, HRc, by omega, by omega⟩
          obtain ⟨c', k, lo, hi', rfl, rfl, HRc, hcc, hcs⟩ := hcut
          have hbw : w.heap.size + 1 + 1 ≤ wr.heap.size := by have := HT1.out.lt; omega
          clear HW HSZ
          have HSC := Lib.hid (sic_append its (k, lo, hi'))
          cases pd with
          | false =>
            go_wp2_with (at_builtin; refine wpList_push _ rfl (.tmp 81) (.tmp 83) 42 rfl (w.heap.size + 1 + 1) 44 i0 (.agg #[.int .i64 0, .int .i64 0, .int .i64 0]) 3 24 Tryf.underlying42 hit hz0 hz1 hz2 rfl (by decide) _ its.length _ (sic its) rfl ((HOWN.out.alloc _).alloc _) ⟨wr.heap.size + 1, 0, none⟩ 1 1 [.int .i64 k, .int .i64 lo, .int .i64 hi'] rfl rfl (news_l (by simp)) (by simp [Value.oneCell']) (by decide) (by unfold maxLen; omega) (by omega) (by simp; omega) ?_; intro g1 c1 w1 hown1 hgrow hwhere; have HO1 := Lib.hid hown1; have HGw := Lib.hid hgrow; have HWh := Lib.hid hwhere; clear hown1 hgrow hwhere)
            go_roundg (s.size - c')
            case measure => omega
            case rel =>
              refine ⟨c', its ++ [(k, lo, hi')], some ⟨g1, 0, none⟩, c1, false, rfl, rfl, by rw [List.length_append]; rfl, rfl, ?_, ?_, ?_, ?_, ?_, hcs, by rw [List.length_append]; simp; omega, fun h => by cases h⟩
              · rw [List.length_append, HSC.out]; exact HO1.out
              · exact zpush_t HT1.out HGw.out (zrow_ne HOWN.out) (by omega)
              · exact zpush_t HT0.out HGw.out (zrow_ne HOWN.out) (by omega)
              · exact zpush_b HBL.out HGw.out (zrow_ne HOWN.out) (by omega)
              · rw [List.length_append, decide_eq_true (by simp)]; exact HRc.out
          | true => exact absurd (HP.out rfl) (by omega)
        · have T1 := Lib.hid (show ((s[c].toNat : Int) == 93) = false by rw [beq_eq_false_iff_ne]; omega)
          have T2 := Lib.hid (show ((s[c].toNat : Int) == 45) = false by rw [beq_eq_false_iff_ne]; omega)
          have t1 := T1.out
          have t2 := T2.out
          clear hv hw T1 T2
          go_upto_if 63 with (fail)
          go_cut [1] (fun vc wc => ∃ (c' : Nat) (k lo hi : Int), vc = .int .i64 c' ∧ wr.alloc (.cells #[.int .i64 k, .int .i64 lo, .int .i64 hi] 44) = wc ∧ Hid (accSet (bz s) c' true = r) ∧ c < c' ∧ c' ≤ s.size)
          case first =>
            rcases (show (s[c].toNat = 37 ∧ c + 1 < s.size) ∨ (s[c].toNat = 37 ∧ ¬ c + 1 < s.size) ∨ s[c].toNat ≠ 37 by omega) with ⟨hx, hy⟩ | ⟨hx, hy⟩ | hx
            · have t3 : ((s[c].toNat : Int) == 37) = true := by rw [beq_iff_eq]; omega
              have HRc : Hid (accSet (bz s) (c + 2) true = r) := Lib.hid (by have h := HR1.out; rw [HC.out, if_pos (by omega)] at h; exact h)
              clear hx
              go_wp2_with fail
              go_meet
              case rel => exact ⟨c + 2, _, _, _, rfl, rfl, HRc, by omega, by omega⟩
            · have t3 : ((s[c].toNat : Int) == 37) = true := by rw [beq_iff_eq]; omega
              have HRc : Hid (accSet (bz s) (c + 1) true = r) := Lib.hid (by have h := HR1.out; rw [HC.out, if_pos (by omega), accSet_end (by rw [bz_length]; omega)] at h; rw [accSet_end (by rw [bz_length]; omega)]; exact h)
              clear hx
              go_wp2_with fail
              go_meet
              case rel => exact ⟨c + 1, _, _, _, rfl, rfl, HRc, by omega, by omega⟩
            · have t3 : ((s[c].toNat : Int) == 37) = false := by rw [beq_eq_false_iff_ne]; omega
              have HRc : Hid (accSet (bz s) (c + 1) true = r) := Lib.hid (by have h := HR1.out; rw [HC.out, if_neg (by omega)] at h; exact h)
              go_wp2_with fail
              go_meet
              case rel => exact ⟨c + 1, _, _, _, rfl, rfl, HRc, by omega, by omega⟩
          obtain ⟨c', k, lo, hi', rfl, rfl, HRc, hcc, hcs⟩ := hcut
          have hbw : w.heap.size + 1 + 1 ≤ wr.heap.size := by have := HT1.out.lt; omega
          clear HW HSZ
          have HSC := Lib.hid (sic_append its (k, lo, hi'))
          cases pd with
          | false =>
            go_wp2_with (at_builtin; refine wpList_push _ rfl (.tmp 81) (.tmp 83) 42 rfl (w.heap.size + 1 + 1) 44 i0 (.agg #[.int .i64 0, .int .i64 0, .int .i64 0]) 3 24 Tryf.underlying42 hit hz0 hz1 hz2 rfl (by decide) _ its.length _ (sic its) rfl ((HOWN.out.alloc _).alloc _) ⟨wr.heap.size + 1, 0, none⟩ 1 1 [.int .i64 k, .int .i64 lo, .int .i64 hi'] rfl rfl (news_l (by simp)) (by simp [Value.oneCell']) (by decide) (by unfold maxLen; omega) (by omega) (by simp; omega) ?_; intro g1 c1 w1 hown1 hgrow hwhere; have HO1 := Lib.hid hown1; have HGw := Lib.hid hgrow; have HWh := Lib.hid hwhere; clear hown1 hgrow hwhere)
            go_roundg (s.size - c')
            case measure => omega
            case rel =>
              refine ⟨c', its ++ [(k, lo, hi')], some ⟨g1, 0, none⟩, c1, false, rfl, rfl, by rw [List.length_append]; rfl, rfl, ?_, ?_, ?_, ?_, ?_, hcs, by rw [List.length_append]; simp; omega, fun h => by cases h⟩
              · rw [List.length_append, HSC.out]; exact HO1.out
              · exact zpush_t HT1.out HGw.out (zrow_ne HOWN.out) (by omega)
              · exact zpush_t HT0.out HGw.out (zrow_ne HOWN.out) (by omega)
              · exact zpush_b HBL.out HGw.out (zrow_ne HOWN.out) (by omega)
              · rw [List.length_append, decide_eq_true (by simp)]; exact HRc.out
          | true =>
            obtain ⟨N, hN⟩ : ∃ N, its.length = N + 1 := ⟨its.length - 1, by have := HP.out rfl; omega⟩
            obtain ⟨⟨kb, lob, hib⟩, hget⟩ : ∃ b, its[N]? = some b := ⟨its[N]'(by omega), List.getElem?_eq_getElem _⟩
            have HB1 := Lib.hid (sic_get (its ++ [(k, lo, hi')]) N (kb, lob, hib) (by rw [List.getElem?_append_left (by omega)]; exact hget))
            have HB2 := Lib.hid (sic_get (its ++ [(k, lo, hi')]) (N + 1) (k, lo, hi') (by rw [List.getElem?_append_right (by omega), hN]; simp))
            have HTK : Hid ((sic its ++ [Value.int .i64 k, Value.int .i64 lo, Value.int .i64 hi']).take (N * 3) = sic (its.take N)) := Lib.hid (by rw [← HSC.out, sic_take, List.take_append_of_le_length (by omega)])
            have HNN := Lib.hid hN
            have HO0 : Hid (wr.ownsRow (w.heap.size + 1 + 1) 44 3 (.slice ao (N + 1) cap) (N + 1) (sic its)) := by have := HOWN.out; rw [hN] at this; exact Lib.hid this
            have hN4 : N ≤ 4194304 := by omega
            rw [hN]
            clear hget
            go_upto_region 30 with (at_builtin; refine wpList_push _ rfl (.tmp 81) (.tmp 83) 42 rfl (w.heap.size + 1 + 1) 44 i0 (.agg #[.int .i64 0, .int .i64 0, .int .i64 0]) 3 24 Tryf.underlying42 hit hz0 hz1 hz2 rfl (by decide) _ (N + 1) _ (sic its) rfl ((HO0.out.alloc _).alloc _) ⟨wr.heap.size + 1, 0, none⟩ 1 1 [.int .i64 k, .int .i64 lo, .int .i64 hi'] rfl rfl (news_l (by simp)) (by simp [Value.oneCell']) (by decide) (by unfold maxLen; omega) (by omega) (by simp; omega) ?_; intro g1 c1 w1 hown1 hgrow hwhere; have HO1 := Lib.hid hown1; have HGw := Lib.hid hgrow; have HWh := Lib.hid hwhere; have b0 : w1.cell? ⟨g1, N * 3, none⟩ = some (.int .i64 kb) := (hown1.cellAt (N * 3) (by omega)).trans (by rw [← HSC.out]; exact HB1.out.1); have b1 : w1.cell? ⟨g1, N * 3 + 1, none⟩ = some (.int .i64 lob) := (hown1.cellAt (N * 3 + 1) (by omega)).trans (by rw [← HSC.out]; exact HB1.out.2.1); have b2 : w1.cell? ⟨g1, N * 3 + 2, none⟩ = some (.int .i64 hib) := (hown1.cellAt (N * 3 + 2) (by omega)).trans (by rw [← HSC.out]; exact HB1.out.2.2); have e0 : ∀ o, (w1.alloc o).cell? ⟨g1, (N + 1) * 3, none⟩ = some (.int .i64 k) := fun o => (World.cell?_alloc_lt w1 o _ (zrow_lt hown1)).trans ((hown1.cellAt ((N + 1) * 3) (by omega)).trans (by rw [← HSC.out]; exact HB2.out.1)); have e1 : ∀ o, (w1.alloc o).cell? ⟨g1, (N + 1) * 3 + 1, none⟩ = some (.int .i64 lo) := fun o => (World.cell?_alloc_lt w1 o _ (zrow_lt hown1)).trans ((hown1.cellAt ((N + 1) * 3 + 1) (by omega)).trans (by rw [← HSC.out]; exact HB2.out.2.1)); have e2 : ∀ o, (w1.alloc o).cell? ⟨g1, (N + 1) * 3 + 2, none⟩ = some (.int .i64 hi') := fun o => (World.cell?_alloc_lt w1 o _ (zrow_lt hown1)).trans ((hown1.cellAt ((N + 1) * 3 + 2) (by omega)).trans (by rw [← HSC.out]; exact HB2.out.2.2)); clear hown1 hgrow hwhere)
            go_cut [106] (fun v wc => (∃ q : Bool, v = .bool q) ∧ ∃ x1 x2 x3 y1 y2 y3 v1 v2 v3 : Int, (((w1.alloc (.cells #[.int .i64 x1, .int .i64 x2, .int .i64 x3] 44)).alloc (.cells #[.int .i64 y1, .int .i64 y2, .int .i64 y3] 44)).alloc (.cells #[.int .i64 v1, .int .i64 v2, .int .i64 v3] 44)) = wc)
            case first =>
              go_wp2_with fail
              all_goals
                go_meet
                case rel => exact ⟨⟨_, rfl⟩, _, _, _, _, _, _, _, _, _, rfl⟩
            obtain ⟨⟨q, rfl⟩, x1, x2, x3, y1, y2, y3, v1, v2, v3, rfl⟩ := hcut
            clear b0 b1 b2 e0 e1 e2
            go_upto_if 106 with (fail)
            go_cut [] (fun wc => ∃ x1 x2 x3 y1 y2 y3 v1 v2 v3 : Int, (((w1.alloc (.cells #[.int .i64 x1, .int .i64 x2, .int .i64 x3] 44)).alloc (.cells #[.int .i64 y1, .int .i64 y2, .int .i64 y3] 44)).alloc (.cells #[.int .i64 v1, .int .i64 v2, .int .i64 v3] 44)) = wc)
            case first =>
              cases q
              all_goals
                go_wp2_with fail
                go_meet
                case rel => exact ⟨_, _, _, _, _, _, _, _, _, rfl⟩
            obtain ⟨x1, x2, x3, y1, y2, y3, v1, v2, v3, rfl⟩ := hcut
            have HT := Lib.hid (zown_take (k := N) HO1.out (by omega))
            have hNc : N ≤ c1 := by have := zown_cap HO1.out; omega
            have hbw1 : wr.heap.size + 1 + 1 ≤ w1.heap.size := by have := HGw.out.size; simp at this; omega
            have T1 := Lib.hid (zpush_t HT1.out HGw.out (zrow_ne HOWN.out) (by omega))
            have T0 := Lib.hid (zpush_t HT0.out HGw.out (zrow_ne HOWN.out) (by omega))
            have TB := Lib.hid (zpush_b HBL.out HGw.out (zrow_ne HOWN.out) (by omega))
            go_wp2_with (at_builtin; refine wpList_push _ rfl (.tmp 117) (.tmp 119) 42 rfl (w.heap.size + 1 + 1) 44 i0 (.agg #[.int .i64 0, .int .i64 0, .int .i64 0]) 3 24 Tryf.underlying42 hit hz0 hz1 hz2 rfl (by decide) _ N _ _ rfl ((((HT.out.alloc _).alloc _).alloc _).alloc _) ⟨w1.heap.size + 3, 0, none⟩ 1 1 [.int .i64 v1, .int .i64 v2, .int .i64 v3] rfl rfl (news_l (by simp)) (by simp [Value.oneCell']) (by decide) (by unfold maxLen; omega) (by omega) (by simp; omega) ?_; intro g2 c2 w2 hown2 hgrow2 hwhere2; have HO2 := Lib.hid hown2; have HG2 := Lib.hid hgrow2; clear hown2 hgrow2 hwhere2)
            go_roundg (s.size - c')
            case measure => omega
            case rel =>
              refine ⟨c', its.take N ++ [(v1, v2, v3)], some ⟨g2, 0, none⟩, c2, false, rfl, rfl, by rw [List.length_append, List.length_take, HNN.out, Nat.min_eq_left (by omega)]; rfl, rfl, ?_, ?_, ?_, ?_, ?_, hcs, by rw [List.length_append, List.length_take, HNN.out]; simp; omega, fun h => by cases h⟩
              · have := HO2.out
                rw [HTK.out] at this
                rw [List.length_append, List.length_take, HNN.out, Nat.min_eq_left (by omega), sic_append]; exact this
              · exact zpush_t2 T1.out HG2.out (zrow_ne HT.out) (by omega)
              · exact zpush_t2 T0.out HG2.out (zrow_ne HT.out) (by omega)
              · exact zpush_b2 TB.out HG2.out (zrow_ne HT.out) (by omega)
              · rw [List.length_append, decide_eq_true (by simp)]; exact HRc.out
    · obtain rfl : c = s.size := by omega
      obtain ⟨cs, h256, hblk, hbool⟩ := HT1.out
      have HK := Lib.hid hblk
      have H2 := Lib.hid h256
      have HBO := Lib.hid hbool
      clear hblk h256 hbool
      go_wp2_with (first | (refine wpList_load_row rfl 23 (.tmp 7) rfl (w.heap.size + 1) rfl 23 cs (0, 0) _ HK.out Tryf.underlying23 rfl (by rw [H2.out]; kernel_rfl) ?_) | (refine wpList_store_mid rfl 23 (.tmp 4) (.tmp 36) rfl w.heap.size 0 cs rfl rfl (by rw [H2.out]; exact HT0.out.there) (by rw [H2.out]; kernel_rfl) (Bools.one HBO) ?_))
      obtain ⟨cs', h1, h2, h3⟩ := T256.sets cs.toList 0 _ HT0.out (fun v hv => HBO.out v (by simpa using hv))
      refine bodyPost_ret (zresults rfl rfl rfl h2 h1) rfl ⟨cs', h1, h3, below_sets (Nat.le_refl _) _ _ _ _ HBL.out, ?_⟩
      rw [← HR.out, accSet_end (by rw [bz_length]; exact Nat.le_refl _)]; rfl
end Go.Proofs.YtejankffdmahnaaFmt
