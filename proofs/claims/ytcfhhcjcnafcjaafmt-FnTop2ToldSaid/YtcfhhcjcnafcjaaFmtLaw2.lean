/-
  Helpers of the law on defects: a row of bytes as a string, the bytes of a row of tokens. Conditions as each states.
-/
import Derived.Test.YtcfhhcjcnafcjaaFmtDecEnd
import Derived.Test.YtcfhhcjcnafcjaaFmtFindErr
import Derived.Test.YtcfhhcjcnafcjaaFmtTxtAll
import Derived.Laws.IdiomStrings
namespace Go.Proofs.YtcfhhcjcnafcjaaFmt
open Go.RowKit
set_option linter.unusedVariables false
set_option linter.unusedSimpArgs false

@[go_sem] theorem as_perr2 (v : Value) (w : World) : (Instr.typeAssert (.iface 44 v) 29 44 true).run Tryf.prog w = .ok (.tuple #[v, .bool true]) w := by kernel_rfl
theorem si_byte {i : SI} (h : i.ok) : ∀ z, z ∈ i.txt → 0 ≤ z ∧ z ≤ 255 := by
  intro z hz
  cases i with
  | chr a =>
    simp only [SI.ok, sets10, List.mem_cons, List.not_mem_nil, or_false] at h
    simp only [SI.txt, List.mem_cons, List.not_mem_nil, or_false] at hz
    omega
  | rng a b =>
    simp only [SI.ok, rngs6, List.mem_cons, Prod.mk.injEq, List.not_mem_nil, or_false] at h
    simp only [SI.txt, List.mem_cons, List.not_mem_nil, or_false] at hz
    omega
  | esc a =>
    simp only [SI.ok, picks, List.mem_cons, List.not_mem_nil, or_false] at h
    simp only [SI.txt, List.mem_cons, List.not_mem_nil, or_false] at hz
    omega
theorem ck_byte {c : CK} (h : c.ok) : ∀ z, z ∈ c.txt → 0 ≤ z ∧ z ≤ 255 := by
  intro z hz
  cases c with
  | lit a =>
    simp only [CK.ok, lits13, List.mem_cons, List.not_mem_nil, or_false] at h
    simp only [CK.txt, List.mem_cons, List.not_mem_nil, or_false] at hz
    omega
  | dot =>
    simp only [CK.txt, List.mem_cons, List.not_mem_nil, or_false] at hz
    omega
  | esc a =>
    simp only [CK.ok, picks, List.mem_cons, List.not_mem_nil, or_false] at h
    simp only [CK.txt, List.mem_cons, List.not_mem_nil, or_false] at hz
    omega
  | set neg l =>
    rw [set_txt] at hz
    simp only [List.mem_cons, List.mem_append, List.mem_flatMap, List.not_mem_nil, or_false] at hz
    rcases hz with rfl | hz | ⟨i, hi, hz⟩ | rfl
    · omega
    · cases neg <;> simp at hz; omega
    · exact si_byte (h.2.2 i hi) z hz
    · omega
theorem ts_byte {k k' : Nat} {ts : List Tk} (h : TS k k' ts) : ∀ z, z ∈ txts ts → 0 ≤ z ∧ z ≤ 255 := by
  induction h with
  | nil => intro z hz; simp [txts] at hz
  | @cls _ _ c q ts hc hq _ ih =>
    intro z hz
    rw [show txts (Tk.cls c q :: ts) = c.txt ++ qtxt q ++ txts ts from rfl, List.mem_append, List.mem_append] at hz
    rcases hz with (hz | hz) | hz
    · exact ck_byte hc z hz
    · simp only [quants, List.mem_cons, List.not_mem_nil, or_false] at hq
      unfold qtxt at hz
      split at hz
      · simp at hz
      · simp only [List.mem_cons, List.not_mem_nil, or_false] at hz; omega
    · exact ih z hz
  | @pos k _ ts _ ih =>
    intro z hz
    rw [show txts (Tk.pos k :: ts) = [40, 41] ++ txts ts from rfl, List.mem_append] at hz
    rcases hz with hz | hz
    · simp only [List.mem_cons, List.not_mem_nil, or_false] at hz; omega
    · exact ih z hz
  | @cap k0 _ _ inner ts _ _ _ ih1 ih2 =>
    intro z hz
    have e : txts (Tk.opn k0 :: (inner ++ Tk.clo k0 :: ts)) = 40 :: (txts inner ++ (41 :: txts ts)) := by simp [txts, Tk.txt]
    rw [e] at hz
    simp only [List.mem_cons, List.mem_append] at hz
    rcases hz with rfl | hz | rfl | hz
    · omega
    · exact ih1 z hz
    · omega
    · exact ih2 z hz
  | @ref _ _ n ts h1 h9 _ ih =>
    intro z hz
    rw [show txts (Tk.ref n :: ts) = [37, 48 + (n : Int)] ++ txts ts from rfl, List.mem_append] at hz
    rcases hz with hz | hz
    · simp only [List.mem_cons, List.not_mem_nil, or_false] at hz; omega
    · exact ih z hz
  | @brc _ _ x y ts hx _ ih =>
    intro z hz
    rw [show txts (Tk.brc x y :: ts) = [37, 98, x, y] ++ txts ts from rfl, List.mem_append] at hz
    rcases hz with hz | hz
    · simp only [brcs4, List.mem_cons, Prod.mk.injEq, List.not_mem_nil, or_false] at hx
      simp only [List.mem_cons, List.not_mem_nil, or_false] at hz; omega
    · exact ih z hz
theorem def_byte {d : Nat} : ∀ z, z ∈ defect d → 0 ≤ z ∧ z ≤ 255 := by
  intro z hz
  unfold defect at hz
  split at hz <;> (simp only [List.mem_cons, List.not_mem_nil, or_false] at hz; omega)
/-- A row of bytes as a string. -/
theorem conv_row {w : World} {B g c n : Nat} {zs : List Int} (hn : zs.length = n) (h : w.ownsRow B 5 1 (.slice (some ⟨g, 0, none⟩) n c) n (u8s zs)) (hb : ∀ z, z ∈ zs → 0 ≤ z ∧ z ≤ 255) :
    ∃ sb : ByteArray, bz sb = zs ∧ (convert 22 9 (.slice (some ⟨g, 0, none⟩) n c)).run Tryf.prog w = .ok (.string sb) w := by
  subst hn
  have hz : ∀ z, z ∈ zs → ((UInt8.ofNat z.toNat).toNat : Int) = z := fun z hz => by
    have := hb z hz
    rw [UInt8.toNat_ofNat', Nat.mod_eq_of_lt (by omega)]; omega
  have hl : (zs.map fun z => UInt8.ofNat z.toNat).length = zs.length := by simp
  refine ⟨⟨(zs.map fun z => UInt8.ofNat z.toNat).toArray⟩, ?_, ?_⟩
  · simp only [bz, List.map_map]
    conv => rhs; rw [← List.map_id zs]
    exact List.map_congr_left fun z hzm => hz z hzm
  · have := run_convert_bytes_back (P := Tryf.prog) w 22 9 5 ⟨g, 0, none⟩ c (zs.map fun z => UInt8.ofNat z.toNat) Tryf.underlying22 Tryf.underlying5 Tryf.underlying9 (fun j hj => by
      have hj' : j < zs.length := by simpa using hj
      have h1 := h.cellAt j (by omega)
      rw [addr_add, Nat.zero_add]
      refine h1.trans ?_
      simp only [u8s, List.getElem_map, List.getD_eq_getElem?_getD, List.getElem?_map, List.getElem?_eq_getElem hj', Option.map_some, Option.getD_some]
      rw [hz _ (List.getElem_mem hj')])
    rw [hl] at this
    exact this
/-- append of nothing. -/
theorem wpList_append_none {P : Program} (w : World) {ops : Array Oper} {rest : List Oper} {o : Oper} {a : Act} {Q : Exit → Act → World → Prop}
    (hg : o.guard = none) (s x : Operand) (t : TypeId) (hop : o.op = Op.call { callee := Callee.builtin Builtin.append, args := #[s, x], argTypes := #[t, t] })
    (e : TypeId) (i : TypeInfo) (h1 : P.underlying t = some (.slice e)) (h2 : P.info? e = some i) (ad : Addr) (n cap c m : Nat) (ao : Option Addr) (hs : a.eval s = .slice (some ad) n cap) (hn : n ≤ cap) (hx : a.eval x = .slice ao m c) (hm : m = 0)
    (hK : wpList P ops Q rest (a.put o.dst (.slice (some ad) n cap)) w) : wpList P ops Q (o :: rest) a w := by
  subst hm
  have hw : Region.wanted o (yielded ops a.tmps) = true := by simp [Region.wanted, hg]
  have hrun : (Builtin.append_ #[t, t] o.type #[.slice (some ad) n cap, .slice ao 0 c]).run P w = .ok (.slice (some ad) n cap) w := by
    cases ao with
    | none =>
      have hf := run_firstCells_none (P := P) w i.size 0 0 c
      simp [Builtin.append_, run_underlying h1, sizeOf, typeInfo, h2, Builtin.lenOf, hn, hf, storeCells]
    | some b =>
      have hf := run_firstCells_some (P := P) w i.size 0 b 0 c [] (by simp) (by simp)
      simp [Builtin.append_, run_underlying h1, sizeOf, typeInfo, h2, Builtin.lenOf, hn, hf, storeCells]
  unfold wpList
  rw [if_pos hw]
  left
  unfold Oper.wp
  simp [execOp, hop, resolve, invoke, builtin, hs, hx, hrun, Result.andThen]
  exact hK
end Go.Proofs.YtcfhhcjcnafcjaaFmt
