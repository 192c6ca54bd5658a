/-
  What the decoder's pattern gives in both searches. Conditions as each statement says.
-/
import Derived.Test.YtcfhhcjcnafcjaaFmtDecEnd
import Derived.Test.YtcfhhcjcnafcjaaFmtFindAll
import Derived.Test.YtcfhhcjcnafcjaaFmtMtAll
import Derived.Laws.IdiomStrings
import Derived.Test.YtcfhhcjcnafcjaaFmtTopLaws
import Derived.Test.YtcfhhcjcnafcjaaFmtRefAll
namespace Go.Proofs.YtcfhhcjcnafcjaaFmt
open Go.RowKit
set_option linter.unusedVariables false
set_option linter.unusedSimpArgs false


@[go_sem] theorem as_perr2 (v : Value) (w : World) : (Instr.typeAssert (.iface 44 v) 29 44 true).run Tryf.prog w = .ok (.tuple #[v, .bool true]) w := by kernel_rfl
theorem si_byte {i : SI} (h : i.ok) : ∀ z, z ∈ i.txt → 0 ≤ z ∧ z ≤ 255 := by
  intro z hz
  cases i with
  | chr a =>
    simp only [SI.ok, sets10, List.mem_cons, List.not_mem_nil, or_false] at h
    simp only [SI.txt, List.mem_cons, List.not_mem_nil, or_false] at hz
    omega
  | rng a b =>
    simp only [SI.ok, rngs6, List.mem_cons, Prod.mk.injEq, List.not_mem_nil, or_false] at h
    simp only [SI.txt, List.mem_cons, List.not_mem_nil, or_false] at hz
    omega
  | esc a =>
    simp only [SI.ok, picks, List.mem_cons, List.not_mem_nil, or_false] at h
    simp only [SI.txt, List.mem_cons, List.not_mem_nil, or_false] at hz
    omega
theorem ck_byte {c : CK} (h : c.ok) : ∀ z, z ∈ c.txt → 0 ≤ z ∧ z ≤ 255 := by
  intro z hz
  cases c with
  | lit a =>
    simp only [CK.ok, lits13, List.mem_cons, List.not_mem_nil, or_false] at h
    simp only [CK.txt, List.mem_cons, List.not_mem_nil, or_false] at hz
    omega
  | dot =>
    simp only [CK.txt, List.mem_cons, List.not_mem_nil, or_false] at hz
    omega
  | esc a =>
    simp only [CK.ok, picks, List.mem_cons, List.not_mem_nil, or_false] at h
    simp only [CK.txt, List.mem_cons, List.not_mem_nil, or_false] at hz
    omega
  | set neg l =>
    rw [set_txt] at hz
    simp only [List.mem_cons, List.mem_append, List.mem_flatMap, List.not_mem_nil, or_false] at hz
    rcases hz with rfl | hz | ⟨i, hi, hz⟩ | rfl
    · omega
    · cases neg <;> simp at hz; omega
    · exact si_byte (h.2.2 i hi) z hz
    · omega
theorem ts_byte {k k' : Nat} {ts : List Tk} (h : TS k k' ts) : ∀ z, z ∈ txts ts → 0 ≤ z ∧ z ≤ 255 := by
  induction h with
  | nil => intro z hz; simp [txts] at hz
  | @cls _ _ c q ts hc hq _ ih =>
    intro z hz
    rw [show txts (Tk.cls c q :: ts) = c.txt ++ qtxt q ++ txts ts from rfl, List.mem_append, List.mem_append] at hz
    rcases hz with (hz | hz) | hz
    · exact ck_byte hc z hz
    · simp only [quants, List.mem_cons, List.not_mem_nil, or_false] at hq
      unfold qtxt at hz
      split at hz
      · simp at hz
      · simp only [List.mem_cons, List.not_mem_nil, or_false] at hz; omega
    · exact ih z hz
  | @pos k _ ts _ ih =>
    intro z hz
    rw [show txts (Tk.pos k :: ts) = [40, 41] ++ txts ts from rfl, List.mem_append] at hz
    rcases hz with hz | hz
    · simp only [List.mem_cons, List.not_mem_nil, or_false] at hz; omega
    · exact ih z hz
  | @cap k0 _ _ inner ts _ _ _ ih1 ih2 =>
    intro z hz
    have e : txts (Tk.opn k0 :: (inner ++ Tk.clo k0 :: ts)) = 40 :: (txts inner ++ (41 :: txts ts)) := by simp [txts, Tk.txt]
    rw [e] at hz
    simp only [List.mem_cons, List.mem_append] at hz
    rcases hz with rfl | hz | rfl | hz
    · omega
    · exact ih1 z hz
    · omega
    · exact ih2 z hz
  | @ref _ _ n ts h1 h9 _ ih =>
    intro z hz
    rw [show txts (Tk.ref n :: ts) = [37, 48 + (n : Int)] ++ txts ts from rfl, List.mem_append] at hz
    rcases hz with hz | hz
    · simp only [List.mem_cons, List.not_mem_nil, or_false] at hz; omega
    · exact ih z hz
  | @brc _ _ x y ts hx _ ih =>
    intro z hz
    rw [show txts (Tk.brc x y :: ts) = [37, 98, x, y] ++ txts ts from rfl, List.mem_append] at hz
    rcases hz with hz | hz
    · simp only [brcs4, List.mem_cons, Prod.mk.injEq, List.not_mem_nil, or_false] at hx
      simp only [List.mem_cons, List.not_mem_nil, or_false] at hz; omega
    · exact ih z hz
theorem def_byte {d : Nat} : ∀ z, z ∈ defect d → 0 ≤ z ∧ z ≤ 255 := by
  intro z hz
  unfold defect at hz
  split at hz <;> (simp only [List.mem_cons, List.not_mem_nil, or_false] at hz; omega)
/-- A row of bytes as a string. -/
theorem conv_row {w : World} {B g c n : Nat} {zs : List Int} (hn : zs.length = n) (h : w.ownsRow B 5 1 (.slice (some ⟨g, 0, none⟩) n c) n (u8s zs)) (hb : ∀ z, z ∈ zs → 0 ≤ z ∧ z ≤ 255) :
    ∃ sb : ByteArray, bz sb = zs ∧ (convert 22 9 (.slice (some ⟨g, 0, none⟩) n c)).run Tryf.prog w = .ok (.string sb) w := by
  subst hn
  have hz : ∀ z, z ∈ zs → ((UInt8.ofNat z.toNat).toNat : Int) = z := fun z hz => by
    have := hb z hz
    rw [UInt8.toNat_ofNat', Nat.mod_eq_of_lt (by omega)]; omega
  have hl : (zs.map fun z => UInt8.ofNat z.toNat).length = zs.length := by simp
  refine ⟨⟨(zs.map fun z => UInt8.ofNat z.toNat).toArray⟩, ?_, ?_⟩
  · simp only [bz, List.map_map]
    conv => rhs; rw [← List.map_id zs]
    exact List.map_congr_left fun z hzm => hz z hzm
  · have := run_convert_bytes_back (P := Tryf.prog) w 22 9 5 ⟨g, 0, none⟩ c (zs.map fun z => UInt8.ofNat z.toNat) Tryf.underlying22 Tryf.underlying5 Tryf.underlying9 (fun j hj => by
      have hj' : j < zs.length := by simpa using hj
      have h1 := h.cellAt j (by omega)
      rw [addr_add, Nat.zero_add]
      refine h1.trans ?_
      simp only [u8s, List.getElem_map, List.getD_eq_getElem?_getD, List.getElem?_map, List.getElem?_eq_getElem hj', Option.map_some, Option.getD_some]
      rw [hz _ (List.getElem_mem hj')])
    rw [hl] at this
    exact this
/-- append of nothing. -/
theorem wpList_append_none {P : Program} (w : World) {ops : Array Oper} {rest : List Oper} {o : Oper} {a : Act} {Q : Exit → Act → World → Prop}
    (hg : o.guard = none) (s x : Operand) (t : TypeId) (hop : o.op = Op.call { callee := Callee.builtin Builtin.append, args := #[s, x], argTypes := #[t, t] })
    (e : TypeId) (i : TypeInfo) (h1 : P.underlying t = some (.slice e)) (h2 : P.info? e = some i) (ad : Addr) (n cap c m : Nat) (ao : Option Addr) (hs : a.eval s = .slice (some ad) n cap) (hn : n ≤ cap) (hx : a.eval x = .slice ao m c) (hm : m = 0)
    (hK : wpList P ops Q rest (a.put o.dst (.slice (some ad) n cap)) w) : wpList P ops Q (o :: rest) a w := by
  subst hm
  have hw : Region.wanted o (yielded ops a.tmps) = true := by simp [Region.wanted, hg]
  have hrun : (Builtin.append_ #[t, t] o.type #[.slice (some ad) n cap, .slice ao 0 c]).run P w = .ok (.slice (some ad) n cap) w := by
    cases ao with
    | none =>
      have hf := run_firstCells_none (P := P) w i.size 0 0 c
      simp [Builtin.append_, run_underlying h1, sizeOf, typeInfo, h2, Builtin.lenOf, hn, hf, storeCells]
    | some b =>
      have hf := run_firstCells_some (P := P) w i.size 0 b 0 c [] (by simp) (by simp)
      simp [Builtin.append_, run_underlying h1, sizeOf, typeInfo, h2, Builtin.lenOf, hn, hf, storeCells]
  unfold wpList
  rw [if_pos hw]
  left
  unfold Oper.wp
  simp [execOp, hop, resolve, invoke, builtin, hs, hx, hrun, Result.andThen]
  exact hK


@[go_sem] theorem ms_nil (g n c : Nat) (W : World) : (binOp .eql 27 (.slice (some ⟨g, 0, none⟩) n c) (.slice none 0 0)).run Tryf.prog W = .ok (.bool false) W := by kernel_rfl
theorem txts_nil {k k' : Nat} {ts : List Tk} (h : TS k k' ts) (he : txts ts = []) : ts = [] := by
  by_cases hn : ts = []
  · exact hn
  · obtain ⟨z, r, e, _⟩ := ts_first h hn
    rw [he] at e; cases e
/-- The parser and the compiler over a whole text of the decoder. -/
theorem top_parse {wt an tl : Bool} {nc : Nat} {txt : List Int} {ts : List Tk} {ps : List Bool} (h : Wf wt an tl nc txt ts ps) :
    ∃ l cf, (∀ (w : World) (b : Nat) (ao : Option Addr) (cap : Nat), Scan w b ao cap txt 0 0 → Calls Tryf.prog 18 #[.pointer (some ⟨b, 0, none⟩), .bool true] w (PatPost w b ao cap txt an tl l cf)) ∧ CRun l [.save 0] 2 (.save 0 :: emit 1 ts) (2 * (nc + 1)) := by
  have hx := h.ltx
  by_cases h0 : 0 < txt.length
  · obtain ⟨l, cf, hP, hC⟩ := whole_ptop an tl h.tsE (by rw [← h.tx]; exact h0)
    rw [← h.tx] at hP
    exact ⟨l, cf, fun w b ao cap hs => parsePat_any hs h0 (by omega) hP, hC⟩
  · have he : txt = [] := List.length_eq_zero_iff.1 (by omega)
    have htx := h.tx
    rw [he] at htx
    have h1 := (List.append_eq_nil_iff.1 htx.symm).1
    have htl := (List.append_eq_nil_iff.1 htx.symm).2
    have han := (List.append_eq_nil_iff.1 h1).1
    have hts := txts_nil h.tsE (List.append_eq_nil_iff.1 h1).2
    have h2 : tl = false := by cases tl <;> simp at htl ⊢
    have h3 : an = false := by cases an <;> simp at han ⊢
    subst h2 h3 hts he
    have hnc : nc = 0 := by
      have := h.tsE
      generalize hk : nc + 1 = k at this
      cases this
      omega
    subst hnc
    exact ⟨[], 1, fun w b ao cap hs => parsePat_nil hs, .nil⟩
/-- Both searches over a pattern of the decoder. -/
theorem top_find {w : World} {B p nc off : Nat} {wt an tl : Bool} {txt : List Int} {ts : List Tk} {ps : List Bool} {aT aK aP : Option Addr} {cT cK cP : Nat} {ks : List Value} {sa : Option Addr} {scap : Nat} {src : List Int} {limit : Int} (h : Wf wt an tl nc txt ts ps)
    (hsrc : RowInt .u8 w sa src) (hsb : 0 < src.length → ∀ x, sa = some x → x.block < w.heap.size) (hby : ∀ z, z ∈ src → 0 ≤ z ∧ z ≤ 255) (hlen : src.length ≤ 256) (hcp : src.length ≤ scap) (hoff : off ≤ 9223372036854775807) (hp : PatAt w B p an tl nc txt ts ps aT aK aP cT cK cP ks) :
    ∃ R : List Mt, Calls Tryf.prog 6 #[.pointer (some ⟨p, 0, none⟩), .slice sa src.length scap, .int .i64 (off : Int), .int .i64 limit] w (RefPost w R) ∧
      ∀ w5, Below w.heap.size w w5 → ∃ sb : ByteArray, (convert 22 9 (.slice aT txt.length cT)).run Tryf.prog w5 = .ok (.string sb) w5 ∧
        ∃ Q : List (List Int), Calls Tryf.prog 7 #[.string sb, .slice sa src.length scap, .int .i64 (off : Int), .int .i64 limit] w5 (FindPost w5 Q) ∧ Q.length = R.length ∧ ∀ (i : Nat) (us : List Int) (mm : Mt), Q[i]? = some us → R[i]? = some mm → MEq us mm := by
  have hnc := h.nc12
  have hps := ps_ts h.tsE
  have hlin := ts_lin h.tsE h.refs
  have hpl : ps.length = nc + 1 := by rw [h.psE, List.length_cons, hps.1]; omega
  refine ⟨_, ref_any limit hp hnc hpl (by have := h.lts; omega) hlin hsrc hsb hby (by omega) hoff, fun w5 hb5 => ?_⟩
  obtain ⟨l, cf, hP, hC⟩ := top_parse h
  have hbytes : ∀ z, z ∈ txt → 0 ≤ z ∧ z ≤ 255 := fun z hz => by
    rw [h.tx, List.mem_append, List.mem_append] at hz
    rcases hz with (hz | hz) | hz
    · cases an <;> simp at hz; omega
    · exact ts_byte h.tsE z hz
    · cases tl <;> simp at hz; omega
  have hown : w5.ownsRow B 5 1 (.slice aT txt.length cT) txt.length (u8s txt) := owns_kept hp.ownT (fun g o _ ho => (hb5.block g (blk_lt ho)).trans ho)
  obtain ⟨sb, hsbE, hcv⟩ : ∃ sb : ByteArray, bz sb = txt ∧ (convert 22 9 (.slice aT txt.length cT)).run Tryf.prog w5 = .ok (.string sb) w5 := by
    rcases hown.2 with ⟨h1, h2⟩ | ⟨g, c, cur, h1, _⟩
    · injection h1 with h1 h3 h4
      have he : txt = [] := List.length_eq_zero_iff.1 h3
      subst h1 h4 he
      exact ⟨⟨#[]⟩, rfl, by kernel_rfl⟩
    · injection h1 with h1 h3 h4
      subst h1
      exact conv_row rfl hown hbytes
  refine ⟨sb, hcv, ?_⟩
  have hsz : sb.size ≤ 4194304 := by rw [← bz_length, hsbE]; have := h.ltx; omega
  have hrun := fun sp (hsp : sp ≤ src.length) => top_run (tl := tl) h.tsE h.refs hby (by omega) hsp
  obtain ⟨res, hres⟩ : ∃ res : Nat → Bool × Nat × List Int, ∀ sp, sp ≤ src.length → ∃ n, VRun src (progOf tl (.save 0 :: emit 1 ts)) (dep src.length ts + 1) n 0 sp [] (res sp) ∧ ResEq nc (false :: psOf ts) sp (res sp) (mt src tl ts sp (List.replicate (nc + 1) 0, List.replicate (nc + 1) 0)) ∧ (res sp).2.1 ≤ src.length := by
    refine ⟨fun sp => if hsp : sp ≤ src.length then Classical.choose (Classical.choose_spec (hrun sp hsp)) else (false, 0, []), fun sp hsp => ?_⟩
    refine ⟨Classical.choose (hrun sp hsp), ?_⟩
    simp only [dif_pos hsp]
    exact Classical.choose_spec (Classical.choose_spec (hrun sp hsp))
  have hdep := dep_le src.length ts
  have hub := h.ub2
  have hlts := h.lts
  have hel := emit_len ts 1
  have hmul : (src.length + 2) * unb ts ≤ (src.length + 2) * 2 := Nat.mul_le_mul_left _ hub
  have hslots : ∀ i, i ∈ progOf tl (.save 0 :: emit 1 ts) → slotOk i := by
    intro i hi
    have hP0 : progOf tl (.save 0 :: emit 1 ts) = Ins.save 0 :: (emit 1 ts ++ fin tl) := by cases tl <;> simp [progOf, fin]
    rw [hP0, List.mem_cons, List.mem_append] at hi
    rcases hi with rfl | hi | hi
    · show 0 ≤ 1073741820; omega
    · have hs := emit_slots ts _ 1 i hlin hi
      cases i with
      | save n => have := hs n (.inl rfl); show n ≤ 1073741820; omega
      | psave n => have := hs n (.inr rfl); show n ≤ 1073741820; omega
      | _ => trivial
    · cases tl with
      | false =>
        simp [fin] at hi
        rcases hi with rfl | rfl
        · show 1 ≤ 1073741820; omega
        · trivial
      | true =>
        simp [fin] at hi
        rcases hi with rfl | rfl | rfl | rfl
        · show 1 ≤ 1073741820; omega
        · trivial
        · show 1 ≤ 1073741820; omega
        · trivial
  have hf := find_any sb (w := w5) (sao := sa) (scap := scap) (zs := src) off limit (must := an) (tl := tl) (l := l) (cf := cf) (I' := .save 0 :: emit 1 ts) (k' := 2 * (nc + 1)) (d := dep src.length ts + 1) (res := res) hsz
    (fun w b ao cap hs => by rw [hsbE] at hs ⊢; exact hP w b ao cap hs) hC (by rw [List.length_cons]; omega) (by omega) hslots (row_belowX hsrc hsb hb5) (fun h0 x hx => Nat.lt_of_lt_of_le (hsb h0 x hx) hb5.size) hby (by omega) hcp (fun sp hsp => (hres sp hsp).imp fun n hn => hn.1) (fun sp hsp => by obtain ⟨n, hn⟩ := hres sp hsp; exact hn.2.2) (by omega) hoff
  refine ⟨_, hf, ?_⟩
  have := loops_eq (len := src.length) (nc := nc) (ps := false :: psOf ts) (res := res) (rm := fun sp => mt src tl ts sp (List.replicate (nc + 1) 0, List.replicate (nc + 1) 0)) (limit := limit) (an := an) (fun sp hsp => by obtain ⟨n, hn⟩ := hres sp hsp; exact hn.2.1) _ off [] [] rfl rfl (fun i us mm hu => by simp at hu)
  rw [h.psE]
  exact this

end Go.Proofs.YtcfhhcjcnafcjaaFmt
