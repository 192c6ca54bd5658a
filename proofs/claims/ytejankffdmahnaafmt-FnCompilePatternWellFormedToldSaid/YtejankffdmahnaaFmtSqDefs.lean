/-
  For the contract of n005_60's zzSeq: the model's items as they lie in memory (their kinds alone), what the loop keeps, how it ends. Conditions as each states.
-/
import Derived.Test.YtejankffdmahnaaFmtZCls
import Derived.Test.YtejankffdmahnaaFmtPpDefs
import Derived.Great.BuildSlice
namespace Go.Proofs.YtejankffdmahnaaFmt
open Go.RowKit
set_option linter.unusedVariables false
set_option linter.unusedSimpArgs false

/-- An item's kind as the law's model has it. -/
def kd : Pt → Int
  | .one _ => 1
  | .rep _ _ => 2
  | .pos => 3
  | .cap _ => 4
  | .brace _ _ => 5
  | .num _ => 6
/-- The cells of an item of kind k. -/
structure IsIt (k : Int) (X : Array Value) : Prop where
  size : X.size = 261
  head : X[0]? = some (.int .i64 k)
  one : X.all (·.oneCell') = true
theorem zit_info : (Tryf.prog.info? 53).map (fun i => (i.zero.map (·.cells.size), i.size, i.bytes)) = some (some 261, 261, 312) := by kernel_rfl
noncomputable def itZ : Array Value := (((Tryf.prog.info? 53).bind (·.zero)).map (·.cells)).getD #[]
def itPl : Array (Nat × Nat) := #[(0, 1), (1, 1), (2, 1), (3, 1), (4, 256), (260, 1)]
theorem built_fill (l : List (Nat × Value)) : Tryf.prog.built 53 l = Instr.fill (itPl[·]?) itZ l := by kernel_rfl
theorem itZ_size : itZ.size = 261 := by kernel_rfl
theorem itZ_one : itZ.all (·.oneCell') = true := by kernel_rfl
theorem set_is {k : Int} {X : Array Value} (h : IsIt k X) (i : Nat) (v : Value) (hi : i ≠ 0) (hv : v.oneCell' = true) : IsIt k (X.setIfInBounds i v) := by
  refine ⟨by simpa using h.size, ?_, ?_⟩
  · rw [Array.getElem?_setIfInBounds_ne hi]; exact h.head
  · rw [Array.all_eq_true_iff_forall_mem]
    intro x hx
    rcases Array.mem_or_eq_of_mem_setIfInBounds hx with h1 | h1
    · exact Array.all_eq_true_iff_forall_mem.1 h.one x h1
    · rw [h1]; exact hv
theorem kind_is (k : Int) : IsIt k (itZ.setIfInBounds 0 (.int .i64 k)) := by
  refine ⟨by simpa using itZ_size, ?_, ?_⟩
  · rw [Array.getElem?_setIfInBounds_self_of_lt (by rw [itZ_size]; omega)]
  · rw [Array.all_eq_true_iff_forall_mem]
    intro x hx
    rcases Array.mem_or_eq_of_mem_setIfInBounds hx with h1 | h1
    · exact Array.all_eq_true_iff_forall_mem.1 itZ_one x h1
    · rw [h1]; rfl
/-- What an item's literal gives: an item of its kind. -/
def MadeIt (k : Int) (parts : List (Nat × Value)) : Prop := ∃ X : Array Value, IsIt k X ∧ Tryf.prog.built 53 parts = some X
theorem fill_one {pl : Array (Nat × Nat)} {Z : Array Value} {i off : Nat} {v : Value} {r : List (Nat × Value)} (hp : pl[i]? = some (off, 1)) (hv : v.cells = #[v]) (ho : off < Z.size) : Instr.fill (pl[·]?) Z ((i, v) :: r) = Instr.fill (pl[·]?) (Z.setIfInBounds off v) r := by
  rw [Instr.fill]
  simp only [hp, hv]
  rw [if_neg (by simp; omega)]
  rfl
theorem made_mk {k : Int} {parts : List (Nat × Value)} {X : Array Value} (h : IsIt k X) (hb : Instr.fill (itPl[·]?) itZ parts = some X) : MadeIt k parts :=
  ⟨X, h, by rw [built_fill]; exact hb⟩
theorem made_k (k : Int) : MadeIt k [(0, .int .i64 k)] :=
  made_mk (kind_is k) (by rw [fill_one (off := 0) (by rfl) (by rfl) (by rw [itZ_size]; omega)]; rfl)
theorem made_sub (k : Int) (ao : Option Addr) (n c : Nat) : MadeIt k [(0, .int .i64 k), (5, .slice ao n c)] :=
  made_mk (set_is (kind_is k) 260 (.slice ao n c) (by decide) rfl) (by
    rw [fill_one (off := 0) (by rfl) (by rfl) (by rw [itZ_size]; omega), fill_one (off := 260) (by rfl) (by rfl) (by rw [(kind_is k).size]; omega)]; rfl)
theorem made_a (k x : Int) : MadeIt k [(0, .int .i64 k), (2, .int .i64 x)] :=
  made_mk (set_is (kind_is k) 2 (.int .i64 x) (by decide) rfl) (by
    rw [fill_one (off := 0) (by rfl) (by rfl) (by rw [itZ_size]; omega), fill_one (off := 2) (by rfl) (by rfl) (by rw [(kind_is k).size]; omega)]; rfl)
theorem made_ab (k x y : Int) : MadeIt k [(0, .int .i64 k), (2, .int .i64 x), (3, .int .i64 y)] :=
  made_mk (set_is (set_is (kind_is k) 2 (.int .i64 x) (by decide) rfl) 3 (.int .i64 y) (by decide) rfl) (by
    rw [fill_one (off := 0) (by rfl) (by rfl) (by rw [itZ_size]; omega), fill_one (off := 2) (by rfl) (by rfl) (by rw [(kind_is k).size]; omega), fill_one (off := 3) (by rfl) (by rfl) (by rw [(set_is (kind_is k) 2 (.int .i64 x) (by decide) rfl).size]; omega)]; rfl)
theorem made_cls (k : Int) (cs : Array Value) (h : cs.size = 256) (h1 : ∀ v ∈ cs, ∃ x : Bool, v = .bool x) : MadeIt k [(0, .int .i64 k), (4, .agg cs)] := by
  have hk := kind_is k
  obtain ⟨f1, f2⟩ := Great.foldl_set 4 cs.toList 0 (itZ.setIfInBounds 0 (.int .i64 k))
  refine made_mk (X := (cs.toList.zipIdx 0).foldl (fun a (x : Value × Nat) => a.setIfInBounds (4 + x.2) x.1) (itZ.setIfInBounds 0 (.int .i64 k))) ⟨by rw [f1]; exact hk.size, ?_, ?_⟩ ?_
  · rw [f2, if_neg (by omega)]; exact hk.head
  · rw [Array.all_eq_true_iff_forall_mem]
    intro x hx
    obtain ⟨j, hj⟩ := Array.mem_iff_getElem?.1 hx
    rw [f2] at hj
    split at hj
    · obtain ⟨b, rfl⟩ := h1 x (by have := List.mem_of_getElem? hj; simpa using this)
      rfl
    · exact Array.all_eq_true_iff_forall_mem.1 hk.one x (Array.mem_of_getElem? hj)
  · rw [fill_one (off := 0) (by rfl) (by rfl) (by rw [itZ_size]; omega), Instr.fill]
    have hp : itPl[4]? = some (4, 256) := by rfl
    have hcell : (Value.agg cs).cells = cs := rfl
    simp only [hp, hcell, h]
    rw [if_neg (by rw [hk.size]; simp), Instr.fill, ← Array.foldl_toList, Array.toList_zipIdx]
/-- A slice of one item: its cells. -/
theorem one_fill {k : Int} {X : Array Value} (h : IsIt k X) {ie : TypeInfo} (z : Value) (hs : ie.size = 261) : Instr.fill (fun i => some (i * ie.size, ie.size)) ((Array.range (1 * ie.size)).map (z.cells[· % z.cells.size]!)) [(0, .agg X)] = some X := by
  rw [hs]
  have := Great.fill_whole (s := 261) (by decide) [.agg X] ((Array.range (1 * 261)).map (z.cells[· % z.cells.size]!)) (by intro v hv; simp at hv; subst hv; exact h.size) (by simp)
  refine this.trans ?_
  simp [Value.cells]
/-- The model's items: a row of the call's own that bears their kinds. -/
def KRow (w : World) (B : Nat) (ao : Option Addr) (cap : Nat) (acc : List Pt) : Prop :=
  ∃ xs, w.ownsRow B 53 261 (.slice ao acc.length cap) acc.length xs ∧ ∀ (j : Nat) (p : Pt), acc[j]? = some p → xs[j * 261]? = some (.int .i64 (kd p))
theorem KRow.nil (w : World) (B : Nat) : KRow w B none 0 [] := ⟨[], ⟨rfl, .inl ⟨rfl, rfl⟩⟩, fun j p h => by simp at h⟩
theorem KRow.push {w : World} {B g c : Nat} {acc : List Pt} {p : Pt} {xs : List Value} {X : Array Value} (hx : w.ownsRow B 53 261 (.slice (some ⟨g, 0, none⟩) (acc.length + 1) c) (acc.length + 1) (xs ++ X.toList)) (hk : ∀ (j : Nat) (p : Pt), acc[j]? = some p → xs[j * 261]? = some (.int .i64 (kd p))) (hX : IsIt (kd p) X) (hl : xs.length = acc.length * 261) :
    KRow w B (some ⟨g, 0, none⟩) c (acc ++ [p]) := by
  refine ⟨xs ++ X.toList, by rw [List.length_append]; exact hx, fun j q hj => ?_⟩
  by_cases h : j < acc.length
  · rw [List.getElem?_append_left h] at hj
    rw [List.getElem?_append_left (by rw [hl]; omega)]
    exact hk j q hj
  · rw [List.getElem?_append_right (by omega)] at hj
    obtain rfl : j = acc.length := by
      have := (List.getElem?_eq_some_iff.1 hj).1
      simp at this
      omega
    simp at hj
    subst hj
    rw [List.getElem?_append_right (by omega), hl, Nat.sub_self]
    simpa using hX.head
theorem KRow.mark {w : World} {B g c : Nat} {a : List Pt} {cl : Cl} {z : Int} (h : KRow w B (some ⟨g, 0, none⟩) c (a ++ [.one cl])) :
    KRow ((w.setCell ⟨g, a.length * 261, none⟩ (.int .i64 2)).setCell ⟨g, a.length * 261 + 1, none⟩ (.int .i64 z)) B (some ⟨g, 0, none⟩) c (a ++ [.rep z cl]) := by
  obtain ⟨xs, h1, h2⟩ := h
  have hl := h1.1
  simp only [List.length_append, List.length_singleton] at hl
  refine ⟨(xs.set (a.length * 261) (.int .i64 2)).set (a.length * 261 + 1) (.int .i64 z), ?_, fun j p hj => ?_⟩
  · have := (World.ownsRow.stored (World.ownsRow.stored h1 (a.length * 261) (.int .i64 2)).1 (a.length * 261 + 1) (.int .i64 z)).1
    simpa using this
  · by_cases hjl : j < a.length
    · rw [List.getElem?_append_left hjl] at hj
      rw [List.getElem?_set_ne (by omega), List.getElem?_set_ne (by omega)]
      exact h2 j p (by rw [List.getElem?_append_left hjl]; exact hj)
    · rw [List.getElem?_append_right (by omega)] at hj
      obtain rfl : j = a.length := by
        have := (List.getElem?_eq_some_iff.1 hj).1
        simp at this
        omega
      simp at hj
      subst hj
      rw [List.getElem?_set_ne (by omega), List.getElem?_set_self (by omega)]
      rfl
theorem KRow.below {w w' : World} {B c : Nat} {ao : Option Addr} {acc : List Pt} (h : KRow w B ao c acc) (hb : Below w.heap.size w w') : KRow w' B ao c acc := by
  obtain ⟨xs, h1, h2⟩ := h
  exact ⟨xs, owns_kept h1 (fun g o hg ho => blk_below ho hb (blk_lt ho)), h2⟩
theorem KRow.cap {w : World} {B c : Nat} {ao : Option Addr} {acc : List Pt} (h : KRow w B ao c acc) : acc.length ≤ c := by
  obtain ⟨xs, h1, _⟩ := h
  exact zown_cap h1

theorem zit_parts : ∃ i z, Tryf.prog.info? 53 = some i ∧ i.zero = some z ∧ i.size = 261 ∧ i.bytes = 312 ∧ z.cells.size = 261 := by
  have h := zit_info
  cases hie : Tryf.prog.info? 53 with
  | none => rw [hie] at h; cases h
  | some ie =>
    rw [hie] at h
    simp only [Option.map_some, Option.some.injEq, Prod.mk.injEq] at h
    obtain ⟨hz, hs, hb⟩ := h
    cases hzz : ie.zero with
    | none => rw [hzz] at hz; cases hz
    | some z =>
      rw [hzz] at hz
      simp only [Option.map_some, Option.some.injEq] at hz
      exact ⟨ie, z, rfl, hzz, hs, hb, hz⟩
theorem news_x {W : World} {X : Array Value} {T : TypeId} {n : Nat} (h : W.heap.size = n) : ∀ (j : Nat) (u : Value), X.toList[j]? = some u → (W.alloc (.cells X T)).cell? ((⟨n, 0, none⟩ : Addr).add j) = some u := by
  subst h
  intro j u hj
  rw [addr_add, Nat.zero_add]
  exact blk_cell (blk_new _ _) j _ (by simpa using hj)
theorem news_xd {W : World} {X : Array Value} {T : TypeId} {n : Nat} (h : W.heap.size = n) : ∀ (j : Nat) (u : Value), X.toList[j]? = some u → ((W.alloc (.cells X T)).drew).cell? ((⟨n, 0, none⟩ : Addr).add j) = some u := news_x h
theorem one_all {k : Int} {X : Array Value} (h : IsIt k X) : ∀ u ∈ X.toList, u.oneCell' = true := fun u hu => Array.all_eq_true_iff_forall_mem.1 h.one u (by simpa using hu)
theorem own_len {w : World} {B n n' cap : Nat} {ao : Option Addr} {xs : List Value} (h : n = n') (ho : w.ownsRow B 53 261 (.slice ao n cap) n xs) : w.ownsRow B 53 261 (.slice ao n' cap) n' xs := h ▸ ho
theorem int_is {a b : Int} (h : a = b) : some (Value.int .i64 a) = some (.int .i64 b) := by rw [h]
/-- How the model's call ends. -/
def SqFin (w : World) (s : ByteArray) (top must : Bool) (i : Nat) (j : Nat) (ok : Bool) (w' : World) : Prop :=
  Below w.heap.size w w' ∧ j ≤ s.size ∧ (ok = true → ∃ l tl cf, PTop (bz s) top i must (.ok l tl cf) ∧ (j < s.size → cf = j ∧ chr (bz s) cf = 41))
def SqPost (w : World) (s : ByteArray) (top : Bool) (i : Nat) (e : Ending) (w' : World) : Prop :=
  ∃ (ao : Option Addr) (n cap j : Nat) (hd tl ok must : Bool), e = .returned (.tuple #[.slice ao n cap, .int .i64 j, .bool hd, .bool tl, .bool ok]) ∧ SqFin w s top must i j ok w'
def SIh (s : ByteArray) (c : Nat) : Prop := ∀ (w : World) (c' : Nat), c < c' → c' ≤ s.size → Calls Tryf.prog 10 #[.string s, .int .i64 c', .bool false] w (SqPost w s false c')
noncomputable def sqBody : Code := ((Tryf.f10.body.bind firstLoop).getD .skip)
structure SFr (s : ByteArray) (top : Bool) (a : Act) : Prop where
  df : a.defers = []
  sz : a.tmps.size = 253
  s0 : a.tmps[0]? = some (.string s)
  s2 : a.tmps[2]? = some (.bool top)
  s11 : a.tmps[11]? = some (.int .i64 s.size)
/-- What holds at the loop's head, at the cursor c. -/
def SRel (w : World) (s : ByteArray) (top must : Bool) (i : Nat) (wr : World) (c : Nat) (a : Act) : Prop :=
  ∃ (acc : List Pt) (ao : Option Addr) (cap : Nat) (hd tlq : Bool), a.tmps[1]? = some (.int .i64 (min c s.size : Nat)) ∧ a.tmps[12]? = some (.slice ao acc.length cap) ∧ a.tmps[13]? = some (.bool hd) ∧ a.tmps[14]? = some (.bool tlq) ∧
    KRow wr w.heap.size ao cap acc ∧ Below w.heap.size w wr ∧ (∀ r, PRun (bz s) top c acc tlq r → PTop (bz s) top i must r) ∧ acc.length ≤ c ∧ c ≤ s.size + 1
/-- The loop's ways out. -/
def SQ (w : World) (s : ByteArray) (top must : Bool) (i : Nat) : Exit → Act → World → Prop
  | .ret, a, w' => a.defers = [] ∧ ∃ (ao : Option Addr) (n cap j : Nat) (hd tl ok : Bool), a.tmps[6]? = some (.slice ao n cap) ∧ a.tmps[7]? = some (.int .i64 j) ∧ a.tmps[8]? = some (.bool hd) ∧ a.tmps[9]? = some (.bool tl) ∧ a.tmps[10]? = some (.bool ok) ∧ SqFin w s top must i j ok w'
  | .exit id, a, w' => id = 0 ∧ SFr s top a ∧ ∃ c, s.size ≤ c ∧ SRel w s top must i w' c a
  | _, _, _ => False
theorem sq_no {w w' : World} {s : ByteArray} {top must : Bool} {i j : Nat} (hb : Below w.heap.size w w') (hj : j ≤ s.size) : SqFin w s top must i j false w' := ⟨hb, hj, fun h => by cases h⟩
end Go.Proofs.YtejankffdmahnaaFmt
