/-
  The contracts of Find. Conditions as each statement says.
-/
import Derived.Test.YtcfhhcjcnafcjaaFmtPpEnd
import Derived.Test.YtcfhhcjcnafcjaaFmtBase
import Derived.Defers
import Derived.Recover
import Derived.Laws.Pointers
import Derived.Test.YtcfhhcjcnafcjaaFmtCompTop
import Derived.Test.YtcfhhcjcnafcjaaFmtVmEnd
namespace Go.Proofs.YtcfhhcjcnafcjaaFmt
open Go.RowKit
set_option linter.unusedVariables false
set_option linter.unusedSimpArgs false


@[go_sem] theorem as_perr (v : Value) (w : World) : (Instr.typeAssert (.iface 44 v) 20 44 true).run Tryf.prog w = .ok (.tuple #[v, .bool true]) w := by kernel_rfl
set_option maxHeartbeats 1000000 in
set_option maxRecDepth 100000 in
theorem find_catch (p : Addr) (v : Value) (w : World) (kE : w.cell? p = some .nilIface) (fE : w.frozen? p = false) :
    CallsD Tryf.prog 17 #[.pointer (some p)] (.panicking [{ v := .iface 44 v, recovered := false }]) w fun e u' w' => e = .returned (.tuple #[]) ∧ u' = .panicking [{ v := .iface 44 v, recovered := true }] ∧ w' = w.setCell p (.iface 44 v) := by
  refine callsD_of_wpS Tryf.func17 rfl fun c₀ cs hu => ?_
  apply wpS_seq
  apply wpS_region
  simp [wpOpsS, go_sem, recoverD, hu, Tryf.ntmps17, Exit.thenS]
  apply wpS_seq
  apply wpS_region
  simp [wpOpsS, go_sem, recoverD, hu, Exit.thenS]
  refine wpS_cond (t := true) (by simp [Act.eval, Array.replicate]) ?_
  simp only [if_true]
  refine wpS_of_wp ?_
  change Code.wp _ _ _ { tmps := #[.pointer (some p), .iface 44 v, undef, undef, .iface 44 v, .iface 44 v, .bool true, undef, undef, undef, undef, undef, undef, undef, undef, undef], defers := [] } _
  go_wp2_with fail
  exact ⟨rfl, _, rfl, _, by simp [results, Tryf.results17], rfl, rfl, rfl⟩
/-- Find where the parser raises an error. -/
def FindErr (p : Int) (m : Nat) (w : World) (e : Ending) (w' : World) : Prop :=
  ∃ g, e = .returned (.tuple #[.slice none 0 0, .iface 44 (.pointer (some ⟨g, 0, none⟩))]) ∧ w'.heap[g]? = some (.cells #[.int .i64 p, .string (errTxt m)] 47 (0, 0)) ∧ Below w.heap.size w w'
theorem find_hmf : ∀ (fn : Fn) (first cap : Array Value) (w : World), (Instr.makeFunc fn first cap).run Tryf.prog w = .ok (.func fn first cap) w := fun _ _ _ _ => rfl
set_option maxHeartbeats 2000000 in
set_option maxRecDepth 100000 in
theorem find_err (s : ByteArray) {w : World} (sv : Value) (off limit : Int) {must : Bool} {p : Int} {m : Nat} (hs0 : 0 < s.size) (hs : s.size ≤ 4194304) (hP : PTop (bz s) true 0 must (.err p m)) :
    Calls Tryf.prog 7 #[.string s, sv, .int .i64 off, .int .i64 limit] w (FindErr p m w) := by
  have hmf := find_hmf
  have hcv := Lib.run_convert_string_bytes (P := Tryf.prog) (w.alloc (.cells #[.nilIface] 29)) 9 22 5 s Tryf.underlying9 Tryf.underlying22 Tryf.underlying5
  have HB1 := Lib.hid (bytes_below (w.alloc (.cells #[.nilIface] 29)) 5 s)
  have HC1 := Lib.hid (bytes_cells (w.alloc (.cells #[.nilIface] 29)) 5 s)
  have HE0 := Lib.hid (blk_new w (.cells #[.nilIface] 29))
  have HBw := Lib.hid ((Below.refl w.heap.size w).alloc (Nat.le_refl w.heap.size) (.cells #[.nilIface] 29))
  have hsz : (w.alloc (.cells #[.nilIface] 29)).heap.size = w.heap.size + 1 := by simp
  have HP := Lib.hid hP
  have HL := Lib.hid (bz_length s)
  clear hP
  go_enter_defers Tryf.func7, Tryf.ntmps7
  go_wp2_with fail
  clear hcv hmf
  generalize w.alloc (.cells #[.nilIface] 29) = w0 at *
  generalize hw1 : Lib.bytesWorld w0 5 s = w1 at *
  generalize hg : grownCap w0 s.size 0 5 = gc at *
  clear hw1 hg
  rw [hsz] at HB1 HC1
  refine (newScan_any _ _ _ _).mono ?_
  rintro e w2 ⟨rfl, rfl⟩
  have hs2 : Scan (w1.alloc (.cells #[.slice (some ⟨w.heap.size + 1, 0, none⟩) (bz s).length gc, .int .i64 0, .bool false, .int .i64 0, .bool false] 118)) w1.heap.size (some ⟨w.heap.size + 1, 0, none⟩) gc (bz s) 0 0 :=
    Scan.new (fun _ => ⟨_, _, rfl, HC1.out⟩) (by rw [HL.out]; omega) (bz_byte s)
  rw [HL.out] at hs2
  have HS2 := Lib.hid hs2
  clear hs2
  have kE1 : w1.heap[w.heap.size]? = some (.cells #[.nilIface] 29 (0, 0)) := (HB1.out.block _ (by omega)).trans HE0.out
  have HE2 := Lib.hid (blk_alloc kE1 (.cells #[.slice (some ⟨w.heap.size + 1, 0, none⟩) s.size gc, .int .i64 0, .bool false, .int .i64 0, .bool false] 118))
  have hne : w.heap.size + 1 ≤ w1.heap.size := by have := HB1.out.size; omega
  have HB2 := Lib.hid (HBw.out.trans ((HB1.out.mono (Nat.le_succ _)).alloc (by omega) (.cells #[.slice (some ⟨w.heap.size + 1, 0, none⟩) s.size gc, .int .i64 0, .bool false, .int .i64 0, .bool false] 118)))
  clear kE1
  generalize w1.alloc (.cells #[.slice (some ⟨w.heap.size + 1, 0, none⟩) s.size gc, .int .i64 0, .bool false, .int .i64 0, .bool false] 118) = w2 at *
  generalize w1.heap.size = sb at *
  go_wp2_with fail
  refine (parsePat_r HS2.out (by rw [HL.out]; exact hs0) (by rw [HL.out]; exact hs) HP.out).mono ?_
  rintro e w3 ⟨ch, rfl, hg3, g, rfl, hg, hb⟩
  have hE3 := blk_grown HE2.out hg3 (fun e => by injection e; omega)
  have kE3 := blk_cell hE3 0 _ rfl
  have fE3 := blk_free hE3 0
  have hgE : g ≠ w.heap.size := type_ne hb hE3 (by decide)
  refine leaves_cons (f := 17) (args := #[.pointer (some ⟨w.heap.size, 0, none⟩)]) (by simp) (by simp [go_sem]) ?_
  refine (find_catch ⟨w.heap.size, 0, none⟩ _ w3 kE3 fE3).mono ?_
  rintro e u' w'' ⟨rfl, rfl, rfl⟩
  have kE4 := blk_cell (blk_set hE3 0 (.iface 44 (.pointer (some ⟨g, 0, none⟩)))) 0 _ rfl
  have hb4 := (Below.heap_setCell w3 ⟨w.heap.size, 0, none⟩ (.iface 44 (.pointer (some ⟨g, 0, none⟩))) g hgE).trans hb
  simp [Leaves, settle, results, Tryf.results7, go_sem, kE4]
  trace_state
  exact ⟨g, rfl, hb4, (HB2.out.trans (one_below hg3 (by omega) (by have := HB2.out.size; omega))).setCell (Nat.le_refl _) _⟩


/-- MatchDatas one after the other; none of their blocks is one of X. -/
inductive MsAt (X : Nat → Prop) (w : World) : List (List Int) → List Value → Prop
  | nil : MsAt X w [] []
  | cons {us : List Int} {ls : List (List Int)} {m : Nat} {ao : Option Addr} {cap : Nat} {vs : List Value} : MD w m ao cap us → ¬ X m → (∀ g, blkOf ao = some g → ¬ X g) → MsAt X w ls vs → MsAt X w (us :: ls) (.pointer (some ⟨m, 0, none⟩) :: vs)
theorem MD.keptBy {X : Nat → Prop} {w w' : World} {m : Nat} {ao : Option Addr} {cap : Nat} {us : List Int} (h : MD w m ao cap us) (hm : ¬ X m) (hr : ∀ g, blkOf ao = some g → ¬ X g) (hk : ∀ k o, ¬ X k → w.heap[k]? = some o → w'.heap[k]? = some o) : MD w' m ao cap us :=
  h.kept ((hk m _ hm h.blk).trans h.blk.symm) (fun g hg => by obtain ⟨c, hc⟩ := own_type h.own g hg; rw [hk g _ (hr g hg) hc, hc])
theorem MsAt.kept {X Y : Nat → Prop} {w w' : World} {ls : List (List Int)} {vs : List Value} (h : MsAt X w ls vs) (hk : ∀ k o, ¬ X k → w.heap[k]? = some o → w'.heap[k]? = some o) (hX : ∀ k, k < w.heap.size → Y k → X k) : MsAt Y w' ls vs := by
  induction h with
  | nil => exact .nil
  | cons h1 h2 h3 _ ih => exact .cons (h1.keptBy h2 h3 hk) (fun hy => h2 (hX _ h1.lt hy)) (fun g hg hy => h3 g hg (hX g (h1.row' g hg).2 hy)) ih
theorem MsAt.append {X : Nat → Prop} {w : World} {ls ks : List (List Int)} {vs us : List Value} (h : MsAt X w ls vs) (k : MsAt X w ks us) : MsAt X w (ls ++ ks) (vs ++ us) := by
  induction h with
  | nil => exact k
  | cons h1 h2 h3 _ ih => exact .cons h1 h2 h3 ih
theorem MsAt.get {X : Nat → Prop} {w : World} {ls : List (List Int)} {vs : List Value} (h : MsAt X w ls vs) : ∀ (i : Nat) (us : List Int), ls[i]? = some us → ∃ m ao cap, vs[i]? = some (.pointer (some ⟨m, 0, none⟩)) ∧ MD w m ao cap us := by
  induction h with
  | nil => intro i us h; simp at h
  | cons h1 _ _ _ ih =>
    intro i us h
    cases i with
    | zero => simp at h; subst h; exact ⟨_, _, _, rfl, h1⟩
    | succ i => simpa using ih i us (by simpa using h)

/-- The search loop. -/
def findLoop (len : Nat) (res : Nat → Bool × Nat × List Int) (limit : Int) (anch : Bool) (sp : Nat) (acc : List (List Int)) : List (List Int) :=
  if len < sp then acc
  else if ((if (res sp).1 then acc ++ [(res sp).2.2] else acc).length : Int) = limit ∨ anch = true then (if (res sp).1 then acc ++ [(res sp).2.2] else acc)
  else findLoop len res limit anch (if (res sp).1 then max (sp + 1) (res sp).2.1 else sp + 1) (if (res sp).1 then acc ++ [(res sp).2.2] else acc)
termination_by len + 1 - sp
decreasing_by split <;> omega

/-- The list that Find hands back. -/
def FindPost (w : World) (R : List (List Int)) (e : Ending) (w' : World) : Prop :=
  ∃ g cap vs, e = .returned (.tuple #[.slice (some ⟨g, 0, none⟩) R.length cap, .nilIface]) ∧ w'.ownsRow w.heap.size 36 1 (.slice (some ⟨g, 0, none⟩) R.length cap) R.length vs ∧ MsAt (fun k => k < w.heap.size) w' R vs ∧ Below w.heap.size w w'

theorem find_idle (p : Addr) (w : World) :
    CallsD Tryf.prog 17 #[.pointer (some p)] .returning w fun e u' w' => e = .returned (.tuple #[]) ∧ u' = .returning ∧ w' = w := by
  refine callsD_of_wpS Tryf.func17 rfl fun c₀ cs hu => ?_
  apply wpS_seq
  apply wpS_region
  simp [wpOpsS, go_sem, recoverD, hu, Tryf.ntmps17, Exit.thenS]
  apply wpS_seq
  apply wpS_region
  simp [wpOpsS, go_sem, recoverD, hu, Exit.thenS]
  refine wpS_cond (t := false) (by simp [Act.eval, Array.replicate]) ?_
  simp only [Bool.false_eq_true, if_false]
  refine wpS_of_wp (wp_skip ?_)
  cases c₀
  simp_all [bodyPostS, results, Tryf.results17]

theorem md_info : (Tryf.prog.info? 36).map (fun i => (i.zero, i.size, i.bytes)) = some (some (.pointer none), 1, 8) := by kernel_rfl
theorem progPost_from {w w3 : World} {J : List Ins} {e : Ending} {w' : World} (hb : Below w.heap.size w w3) (h : ProgPost w3 J e w') : ProgPost w J e w' := by
  obtain ⟨m, ao, cap, ys, h1, h2, h3, h4, h5, h6⟩ := h
  exact ⟨m, ao, cap, ys, h1, h2, h3, hb.trans (h4.mono hb.size), fun g hg => Nat.le_trans hb.size (h5 g hg), Nat.le_trans hb.size h6⟩
theorem find_push {B : Nat} {w4 wr w5 w8 : World} {g cap m cap' g1 : Nat} {ao' : Option Addr} {ls : List (List Int)} {us : List Int} {vs : List Value} (ho : wr.ownsRow B 36 1 (.slice (some ⟨g, 0, none⟩) ls.length cap) ls.length vs) (hm : MsAt (fun k => k < B ∨ k = g) wr ls vs) (hb : Below B w4 wr) (hB : B ≤ wr.heap.size)
    (hmd : MD w5 m ao' cap' us) (hb5 : Below wr.heap.size wr w5) (hm' : wr.heap.size ≤ m) (hr' : ∀ x, blkOf ao' = some x → wr.heap.size ≤ x) (hk : ∀ k o, k ≠ g → w5.heap[k]? = some o → w8.heap[k]? = some o) (hgb : Below B w5 w8) (hat : g1 = g ∨ w5.heap.size ≤ g1) :
    MsAt (fun k => k < B ∨ k = g1) w8 (ls ++ [us]) (vs ++ [.pointer (some ⟨m, 0, none⟩)]) ∧ Below B w4 w8 := by
  have hg := owns_lt ho g rfl
  have hs5 := hb5.size
  refine ⟨?_, hb.trans ((hb5.mono hB).trans hgb)⟩
  have h5 : MsAt (fun k => k < B ∨ k = g) w5 ls vs := hm.kept (fun k o _ h => (hb5.block k (blk_lt h)).trans h) (fun _ _ h => h)
  refine (h5.kept (Y := fun k => k < B ∨ k = g1) (fun k o hx h => hk k o (fun e => hx (.inr e)) h) (fun k hk1 hy => ?_)).append ?_
  · rcases hy with hy | hy
    · exact .inl hy
    · rcases hat with h | h
      · exact .inr (hy.trans h)
      · omega
  · have hlt := hmd.lt
    refine .cons (hmd.keptBy (X := fun k => k = g) (by omega) (fun x hx e => ?_) (fun k o hx h => hk k o hx h)) (fun hy => ?_) (fun x hx hy => ?_) .nil
    · have := hr' x hx; omega
    · rcases hat with h | h <;> omega
    · have h1 := hr' x hx
      have h2 := (hmd.row' x hx).2
      rcases hat with h | h <;> omega
theorem venv_at {w w4 wr : World} {sao ao : Option Addr} {zs : List Int} {m cap : Nat} {J : List Ins} {ys : List Value} (hr : RowInt .u8 w sao zs) (hb0 : Below w.heap.size w w4) (hown : w4.ownsRow 0 123 4 (.slice ao J.length cap) J.length ys) (hels : InssAt (CX m ao) w4 J ys) (hb : Below w4.heap.size w4 wr)
    (hby : ∀ z, z ∈ zs → 0 ≤ z ∧ z ≤ 255) (hl : zs.length ≤ 65536) (hsl : ∀ i, i ∈ J → slotOk i) : VEnv wr (fun _ => False) sao zs ao cap J ys :=
  ⟨hr.below (hb0.trans (hb.mono hb0.size)) (Nat.le_refl _), fun _ _ _ h => h, owns_kept hown (fun g o hg ho => (hb.block g (owns_lt hown g hg).2).trans ho), fun _ _ h => h, hels.kept (fun k o _ h => (hb.block k (blk_lt h)).trans h) (fun _ _ h => h.elim), hby, by omega, hsl⟩
theorem find_step (len : Nat) (res : Nat → Bool × Nat × List Int) (limit : Int) (anch : Bool) (sp : Nat) (ls : List (List Int)) (h : sp ≤ len) : findLoop len res limit anch sp ls =
    (if ((if (res sp).1 then ls ++ [(res sp).2.2] else ls).length : Int) = limit ∨ anch = true then (if (res sp).1 then ls ++ [(res sp).2.2] else ls)
  else findLoop len res limit anch (if (res sp).1 then max (sp + 1) (res sp).2.1 else sp + 1) (if (res sp).1 then ls ++ [(res sp).2.2] else ls)) := by
  conv => lhs; unfold findLoop
  rw [if_neg (by omega)]
theorem find_end (len : Nat) (res : Nat → Bool × Nat × List Int) (limit : Int) (anch : Bool) (sp : Nat) (ls : List (List Int)) (h : ¬ sp ≤ len) : findLoop len res limit anch sp ls = ls := by
  unfold findLoop
  rw [if_pos (by omega)]
/-- What holds at the loop's head. -/
def FRel (w4 : World) (len : Nat) (res : Nat → Bool × Nat × List Int) (limit : Int) (anch : Bool) (R : List (List Int)) (v8 v12 : Value) (wr : World) : Prop :=
  ∃ (sp : Nat) (ls : List (List Int)) (g cap : Nat) (vs : List Value), v8 = .slice (some ⟨g, 0, none⟩) ls.length cap ∧ v12 = .int .i64 sp ∧ wr.ownsRow w4.heap.size 36 1 (.slice (some ⟨g, 0, none⟩) ls.length cap) ls.length vs ∧
    MsAt (fun k => k < w4.heap.size ∨ k = g) wr ls vs ∧ Below w4.heap.size w4 wr ∧ findLoop len res limit anch sp ls = R ∧ ls.length ≤ sp ∧ sp ≤ 9223372036854775807
theorem frel_start (w4 : World) (len : Nat) (res : Nat → Bool × Nat × List Int) (limit : Int) (anch : Bool) (off : Nat) (hoff : off ≤ 9223372036854775807) : FRel w4 len res limit anch (findLoop len res limit anch off []) (.slice (some ⟨w4.heap.size, 0, none⟩) 0 0) (.int .i64 off) (w4.alloc (.cells #[] 36)) :=
  ⟨off, [], w4.heap.size, 0, [], rfl, rfl, World.ownsRow_lit (e := 36) (size := 1) w4 #[] 0 (Nat.le_refl _) (Nat.zero_le _) rfl, .nil, (Below.refl _ _).alloc (Nat.le_refl _) _, rfl, Nat.zero_le _, hoff⟩
theorem frel_done {w w4 wr : World} {R ls : List (List Int)} {g cap n : Nat} {vs : List Value} (h0 : Below w.heap.size w w4) (hn : n = ls.length) (ho : wr.ownsRow w4.heap.size 36 1 (.slice (some ⟨g, 0, none⟩) n cap) n vs)
    (hm : MsAt (fun k => k < w4.heap.size ∨ k = g) wr ls vs) (hb : Below w4.heap.size w4 wr) (hR : ls = R) : FindPost w R (.returned (.tuple #[.slice (some ⟨g, 0, none⟩) n cap, .nilIface])) wr := by
  subst hR hn
  have := h0.size
  exact ⟨g, cap, vs, rfl, owns_base ho this, hm.kept (fun _ _ _ h => h) (fun k _ hk => .inl (by omega)), h0.trans (hb.mono this)⟩

set_option maxHeartbeats 2000000 in
set_option maxRecDepth 100000 in
theorem find_any (s : ByteArray) {w : World} {sao : Option Addr} {scap : Nat} {zs : List Int} (off : Nat) (limit : Int) {must tl : Bool} {l : List Pt} {cf : Nat} {I' : List Ins} {k' d : Nat} {res : Nat → Bool × Nat × List Int} (hs : s.size ≤ 4194304)
    (hPP : ∀ (w : World) (b : Nat) (ao : Option Addr) (cap : Nat), Scan w b ao cap (bz s) 0 0 → Calls Tryf.prog 18 #[.pointer (some ⟨b, 0, none⟩), .bool true] w (PatPost w b ao cap (bz s) must tl l cf))
    (hr : CRun l [.save 0] 2 I' k') (hl : I'.length ≤ 8388608) (hk : k' ≤ 1073741824) (hsl : ∀ i, i ∈ progOf tl I' → slotOk i) (hsrc : RowInt .u8 w sao zs) (hsb : 0 < zs.length → ∀ x, sao = some x → x.block < w.heap.size) (hby : ∀ z, z ∈ zs → 0 ≤ z ∧ z ≤ 255) (hlen : zs.length ≤ 65536) (hcp : zs.length ≤ scap)
    (hres : ∀ sp, sp ≤ zs.length → ∃ n, VRun zs (progOf tl I') d n 0 sp [] (res sp)) (hrb : ∀ sp, sp ≤ zs.length → (res sp).2.1 ≤ zs.length) (hd : d + 1 ≤ 1000000) (hoff : off ≤ 9223372036854775807) :
    Calls Tryf.prog 7 #[.string s, .slice sao zs.length scap, .int .i64 off, .int .i64 limit] w (FindPost w (findLoop zs.length res limit must off [])) := by
  have hmf := find_hmf
  have hcv := Lib.run_convert_string_bytes (P := Tryf.prog) (w.alloc (.cells #[.nilIface] 29)) 9 22 5 s Tryf.underlying9 Tryf.underlying22 Tryf.underlying5
  have HBw := Lib.hid ((Below.refl w.heap.size w).alloc (Nat.le_refl w.heap.size) (.cells #[.nilIface] 29))
  have HB1 := Lib.hid (bytes_below (w.alloc (.cells #[.nilIface] 29)) 5 s)
  have HC1 := Lib.hid (bytes_cells (w.alloc (.cells #[.nilIface] 29)) 5 s)
  have HE0 := Lib.hid (blk_new w (.cells #[.nilIface] 29))
  have hsz : (w.alloc (.cells #[.nilIface] 29)).heap.size = w.heap.size + 1 := by simp
  have HPP := Lib.hid hPP
  have HR := Lib.hid hr
  have HL := Lib.hid (bz_length s)
  have HSL := Lib.hid hsl
  have HSRC := Lib.hid hsrc
  have HSB := Lib.hid hsb
  have HBY := Lib.hid hby
  have HRES := Lib.hid hres
  have HRB := Lib.hid hrb
  clear hPP hr hsl hsrc hsb hby hres hrb
  go_enter_defers Tryf.func7, Tryf.ntmps7
  go_wp2_with fail
  clear hcv hmf
  generalize w.alloc (.cells #[.nilIface] 29) = w0 at *
  generalize hw1 : Lib.bytesWorld w0 5 s = w1 at *
  generalize hg : grownCap w0 s.size 0 5 = gc at *
  clear hw1 hg
  rw [hsz] at HB1 HC1
  refine (newScan_any _ _ _ _).mono ?_
  rintro e w2 ⟨rfl, rfl⟩
  have hs2 : Scan (w1.alloc (.cells #[.slice (some ⟨w.heap.size + 1, 0, none⟩) (bz s).length gc, .int .i64 0, .bool false, .int .i64 0, .bool false] 118)) w1.heap.size (some ⟨w.heap.size + 1, 0, none⟩) gc (bz s) 0 0 :=
    Scan.new (fun _ => ⟨_, _, rfl, HC1.out⟩) (by rw [HL.out]; omega) (bz_byte s)
  rw [HL.out] at hs2
  have HS2 := Lib.hid hs2
  have HB2 := Lib.hid (HB1.out.alloc (by have := HB1.out.size; omega) (.cells #[.slice (some ⟨w.heap.size + 1, 0, none⟩) s.size gc, .int .i64 0, .bool false, .int .i64 0, .bool false] 118))
  clear hs2
  have hgt : w.heap.size + 1 ≤ w1.heap.size := by have := HB1.out.size; omega
  generalize w1.alloc (.cells #[.slice (some ⟨w.heap.size + 1, 0, none⟩) s.size gc, .int .i64 0, .bool false, .int .i64 0, .bool false] 118) = w2 at *
  generalize w1.heap.size = sb at *
  go_wp2_with fail
  refine (HPP.out _ _ _ _ HS2.out).mono ?_
  rintro e w3 ⟨q, aq, cap, vs, s', rfl, hq, hpo, hs3, hg3⟩
  have HB3 := Lib.hid (HB2.out.trans (one_below hg3 hgt (by have := HB2.out.size; omega)))
  have HPO := Lib.hid hpo
  have hq3 : w.heap.size + 1 ≤ q := by have := HB2.out.size; omega
  clear hpo hs3 hg3
  go_wp2_with fail
  refine (compTop_any HPO.out.blk (owns_base HPO.out.own (Nat.zero_le _)) (HPO.out.els.kept (fun _ _ _ h => h) (fun _ _ h => h.elim)) HR.out hl hk).mono ?_
  rintro e w4 h4
  have hq4 : w4.heap[q]? = w3.heap[q]? := by
    obtain ⟨_, _, _, _, _, _, _, h, _, _⟩ := h4
    exact h.block _ (blk_lt HPO.out.blk)
  have HQ4 := Lib.hid (hq4.trans HPO.out.blk)
  have HP4 := Lib.hid (progPost_from (w := w0) (by rw [hsz]; exact HB3.out) h4)
  clear hq4 
  obtain ⟨m, ao, cap4, ys, rfl, h⟩ := h4
  clear h
  go_wp2_with fail
  have hw4 : Below w.heap.size w w4 := HBw.out.trans (by
    obtain ⟨_, _, _, _, _, _, _, h, _, _⟩ := HP4.out
    exact h.mono (by omega))
  have h04 : w0.heap.size ≤ w4.heap.size := by
    obtain ⟨_, _, _, _, _, _, _, h, _, _⟩ := HP4.out
    exact h.size
  have hE4 : w4.heap[w.heap.size]? = some (.cells #[.nilIface] 29) := by
    obtain ⟨_, _, _, _, _, _, _, h, _, _⟩ := HP4.out
    exact (h.block _ (by omega)).trans HE0.out
  have HE4 := Lib.hid hE4
  have HW4 := Lib.hid hw4
  have hVE : ∀ wr, Below w4.heap.size w4 wr → ∃ ys, VEnv wr (fun _ => False) sao zs ao cap4 (progOf tl I') ys := by
    obtain ⟨m, ao1, cap1, ys, he, h1, h2, h3, h4, h5⟩ := HP4.out
    injection he with he
    injection he with e1 e2 e3
    subst e1 e3
    exact fun wr hb => ⟨ys, venv_at HSRC.out HW4.out h1 h2 hb HBY.out hlen HSL.out⟩
  have HVE := Lib.hid hVE
  clear hVE hE4 hw4
  go_loopw [8, 12] (fun v8 v12 wr => FRel w4 zs.length res limit must (findLoop zs.length res limit must off []) v8 v12 wr) (fun _ v12 _ => zs.length + 1 - (intOf v12).toNat)
  case atStart => exact frel_start w4 _ _ _ _ off hoff
  case round =>
    obtain ⟨sp, ls, g, cap', vs, rfl, rfl, ho, hm, hb, hR, hls, hspB⟩ := hrel
    have hqlt := blk_lt HQ4.out
    have hElt := blk_lt HE4.out
    have hq := (hb.block q (blk_lt HQ4.out)).trans HQ4.out
    have hE := (hb.block _ (blk_lt HE4.out)).trans HE4.out
    have hg4 := (owns_lt ho g rfl).1
    have hgl := (owns_lt ho g rfl).2
    have hw4r := hb.size
    have HO := Lib.hid ho
    have HM := Lib.hid hm
    have HB := Lib.hid hb
    have HR1 := Lib.hid hR
    have HQ := Lib.hid hq
    have HE := Lib.hid hE
    clear ho hm hb hR hq hE HPP HR HPO HP4 HQ4 HSL HSRC HBY HB1 HB2 HB3 HC1 HS2 HL HE0 HE4
    by_cases hlt : sp ≤ zs.length
    · obtain ⟨ys, hve⟩ := HVE.out wr HB.out
      obtain ⟨nr, hrun⟩ := HRES.out sp hlt
      have HV := Lib.hid (vmTop_any (scap := scap) hve (fun h0 x hx => Nat.lt_of_lt_of_le (HSB.out h0 x hx) (Nat.le_trans HW4.out.size HB.out.size)) hrun hlt hcp hd)
      have hnl := HRB.out sp hlt
      clear hve hrun HRES HSB HVE HRB
      have HF := Lib.hid (find_step zs.length res limit must sp ls hlt)
      generalize res sp = rr at HV HF hnl
      obtain ⟨ok, nsp, us⟩ := rr
      go_wp2_with fail
      refine HV.out.mono ?_
      rintro e w5 ⟨m5, ao5, cap5, rfl, hmd, hb5, hm5, hr5⟩
      have HMD := Lib.hid hmd
      have HB5 := Lib.hid hb5
      have HR5 := Lib.hid hr5
      have hq5 := (hb5.block q (by have := blk_lt HQ.out; omega)).trans HQ.out
      have HQ5 := Lib.hid hq5
      have kq5 := blk_cell hq5 0 _ rfl
      have HE5 := Lib.hid ((hb5.block _ (blk_lt HE.out)).trans HE.out)
      have kE5 := blk_cell HE5.out 0 _ rfl
      clear hmd hb5 hr5 hq5 HV
      have hO5 := owns_kept HO.out (fun g o hg h => (HB5.out.block g (owns_lt HO.out g hg).2).trans h)
      have hB5w := HB.out.trans (HB5.out.mono hw4r)
      have hM5 : MsAt (fun k => k < w4.heap.size ∨ k = g) w5 ls vs := HM.out.kept (fun k o _ h => (HB5.out.block k (blk_lt h)).trans h) (fun _ _ h => h)
      have HO5 := Lib.hid hO5
      have HB5w := Lib.hid hB5w
      have HM5 := Lib.hid hM5
      have hs5 := HB5.out.size
      clear hO5 hB5w hM5
      have HF' := Lib.hid (HR1.out.symm.trans HF.out)
      clear HF HR1
      cases ok with
      | false =>
        simp only [Bool.false_eq_true, if_false] at HF'
        by_cases hlim : (ls.length : Int) = limit
        · have te : ((ls.length : Int) == limit) = true := by rw [beq_iff_eq]; exact hlim
          go_wp2_with fail
          refine leaves_cons (f := 17) (args := #[.pointer (some ⟨w.heap.size, 0, none⟩)]) (by simp) (by simp [go_sem]) ?_
          refine (find_idle _ _).mono ?_
          rintro e u' w'' ⟨rfl, rfl, rfl⟩
          have hfin := frel_done HW4.out rfl HO5.out HM5.out HB5w.out (HF'.out.trans (if_pos (Or.inl hlim))).symm
          simp [Leaves, settle, results, Tryf.results7, go_sem, kE5]
          exact hfin
        · have te : ((ls.length : Int) == limit) = false := by rw [beq_eq_false_iff_ne]; exact hlim
          cases must with
          | true =>
            go_wp2_with fail
            refine leaves_cons (f := 17) (args := #[.pointer (some ⟨w.heap.size, 0, none⟩)]) (by simp) (by simp [go_sem]) ?_
            refine (find_idle _ _).mono ?_
            rintro e u' w'' ⟨rfl, rfl, rfl⟩
            have hfin := frel_done HW4.out rfl HO5.out HM5.out HB5w.out (HF'.out.trans (if_pos (Or.inr (by simp)))).symm
            simp [Leaves, settle, results, Tryf.results7, go_sem, kE5]
            exact hfin
          | false =>
            go_wp2_with fail
            go_roundw
            case rel => exact ⟨sp + 1, ls, g, cap', vs, by simp, by go_num, HO5.out, HM5.out, HB5w.out, (HF'.out.trans (if_neg (by simp [hlim]))).symm, by first | omega | (simp; omega), by omega⟩
            case measure => simp [intOf]; omega
      | true =>
        simp only [if_true] at HF'
        obtain ⟨i0, hi, hz0, hz1, hz2⟩ := info_parts md_info
        have hlen1 : (ls ++ [us]).length = ls.length + 1 := by simp
        simp only [hlen1] at HF'
        by_cases hn : sp + 1 < nsp
        · have hmx : max (sp + 1) nsp = nsp := by omega
          rw [hmx] at HF'
          by_cases hlim : ((ls.length + 1 : Nat) : Int) = limit
          · have te : (((ls.length + 1 : Nat) : Int) == limit) = true := by rw [beq_iff_eq]; exact hlim
            have te2 : ((ls.length : Int) + 1 == limit) = true := by rw [beq_iff_eq]; omega
            go_wp2_with (at_builtin; refine wpList_push _ rfl (.tmp 45) (.tmp 47) 27 rfl w4.heap.size 36 i0 (.pointer none) 1 8 Tryf.underlying27 hi hz0 hz1 hz2 rfl (by decide) _ _ _ _ rfl (HO5.out.alloc _) ⟨w5.heap.size, 0, none⟩ 1 1 [.pointer (some ⟨m5, 0, none⟩)] rfl rfl (news_at2 (by simp)) (fun u hu => by simp at hu; subst hu; rfl) (by decide) (by unfold maxLen; omega) (by omega) (by simp; omega) ?_; intro g1 c1 w8 hown hgrow hwhere; have HO' := Lib.hid hown; have HGw := Lib.hid hgrow; have HWh := Lib.hid hwhere; clear hown hgrow hwhere; have hb8 := blk_grown (blk_alloc HQ5.out _) HGw.out (fun e => by have e2 : q = g := Option.some.inj e; omega); have kq8 := blk_cell hb8 0 _ rfl; have hE8 := blk_grown (blk_alloc HE5.out _) HGw.out (fun e => by have e2 : w.heap.size = g := Option.some.inj e; omega); have kE8 := blk_cell hE8 0 _ rfl)
            have HPU := Lib.hid (find_push HO.out HM.out HB.out hw4r HMD.out HB5.out hm5 HR5.out (fun k o hk h => blk_grown (blk_alloc h _) HGw.out (fun e => hk (Option.some.inj e))) (((Below.refl _ _).alloc (by omega) _).trans (one_below HGw.out hg4 (by simp; omega))) (HWh.out.imp (fun h => (Option.some.inj h).symm) (fun h => by simp at h; omega)))
            refine leaves_cons (f := 17) (args := #[.pointer (some ⟨w.heap.size, 0, none⟩)]) (by simp) (by simp [go_sem]) ?_
            refine (find_idle _ _).mono ?_
            rintro e u' w'' ⟨rfl, rfl, rfl⟩
            have hfin := frel_done HW4.out hlen1.symm HO'.out HPU.out.1 HPU.out.2 (HF'.out.trans (if_pos (Or.inl hlim))).symm
            simp [Leaves, settle, results, Tryf.results7, go_sem, kE8]
            exact hfin
          · have te : (((ls.length + 1 : Nat) : Int) == limit) = false := by rw [beq_eq_false_iff_ne]; exact hlim
            have te2 : ((ls.length : Int) + 1 == limit) = false := by rw [beq_eq_false_iff_ne]; omega
            cases must with
            | true =>
              go_wp2_with (at_builtin; refine wpList_push _ rfl (.tmp 45) (.tmp 47) 27 rfl w4.heap.size 36 i0 (.pointer none) 1 8 Tryf.underlying27 hi hz0 hz1 hz2 rfl (by decide) _ _ _ _ rfl (HO5.out.alloc _) ⟨w5.heap.size, 0, none⟩ 1 1 [.pointer (some ⟨m5, 0, none⟩)] rfl rfl (news_at2 (by simp)) (fun u hu => by simp at hu; subst hu; rfl) (by decide) (by unfold maxLen; omega) (by omega) (by simp; omega) ?_; intro g1 c1 w8 hown hgrow hwhere; have HO' := Lib.hid hown; have HGw := Lib.hid hgrow; have HWh := Lib.hid hwhere; clear hown hgrow hwhere; have hb8 := blk_grown (blk_alloc HQ5.out _) HGw.out (fun e => by have e2 : q = g := Option.some.inj e; omega); have kq8 := blk_cell hb8 0 _ rfl; have hE8 := blk_grown (blk_alloc HE5.out _) HGw.out (fun e => by have e2 : w.heap.size = g := Option.some.inj e; omega); have kE8 := blk_cell hE8 0 _ rfl)
              have HPU := Lib.hid (find_push HO.out HM.out HB.out hw4r HMD.out HB5.out hm5 HR5.out (fun k o hk h => blk_grown (blk_alloc h _) HGw.out (fun e => hk (Option.some.inj e))) (((Below.refl _ _).alloc (by omega) _).trans (one_below HGw.out hg4 (by simp; omega))) (HWh.out.imp (fun h => (Option.some.inj h).symm) (fun h => by simp at h; omega)))
              refine leaves_cons (f := 17) (args := #[.pointer (some ⟨w.heap.size, 0, none⟩)]) (by simp) (by simp [go_sem]) ?_
              refine (find_idle _ _).mono ?_
              rintro e u' w'' ⟨rfl, rfl, rfl⟩
              have hfin := frel_done HW4.out hlen1.symm HO'.out HPU.out.1 HPU.out.2 (HF'.out.trans (if_pos (Or.inr (by simp)))).symm
              simp [Leaves, settle, results, Tryf.results7, go_sem, kE8]
              exact hfin
            | false =>
              go_wp2_with (at_builtin; refine wpList_push _ rfl (.tmp 45) (.tmp 47) 27 rfl w4.heap.size 36 i0 (.pointer none) 1 8 Tryf.underlying27 hi hz0 hz1 hz2 rfl (by decide) _ _ _ _ rfl (HO5.out.alloc _) ⟨w5.heap.size, 0, none⟩ 1 1 [.pointer (some ⟨m5, 0, none⟩)] rfl rfl (news_at2 (by simp)) (fun u hu => by simp at hu; subst hu; rfl) (by decide) (by unfold maxLen; omega) (by omega) (by simp; omega) ?_; intro g1 c1 w8 hown hgrow hwhere; have HO' := Lib.hid hown; have HGw := Lib.hid hgrow; have HWh := Lib.hid hwhere; clear hown hgrow hwhere; have hb8 := blk_grown (blk_alloc HQ5.out _) HGw.out (fun e => by have e2 : q = g := Option.some.inj e; omega); have kq8 := blk_cell hb8 0 _ rfl; have hE8 := blk_grown (blk_alloc HE5.out _) HGw.out (fun e => by have e2 : w.heap.size = g := Option.some.inj e; omega); have kE8 := blk_cell hE8 0 _ rfl)
              have HPU := Lib.hid (find_push HO.out HM.out HB.out hw4r HMD.out HB5.out hm5 HR5.out (fun k o hk h => blk_grown (blk_alloc h _) HGw.out (fun e => hk (Option.some.inj e))) (((Below.refl _ _).alloc (by omega) _).trans (one_below HGw.out hg4 (by simp; omega))) (HWh.out.imp (fun h => (Option.some.inj h).symm) (fun h => by simp at h; omega)))
              go_roundw
              case rel => exact ⟨nsp, ls ++ [us], g1, c1, _, by rw [hlen1], by go_num, (by rw [hlen1]; exact HO'.out), HPU.out.1, HPU.out.2, (HF'.out.trans (if_neg (by simp only [Bool.false_eq_true, or_false]; exact hlim))).symm, by rw [hlen1]; omega, by omega⟩
              case measure => simp [intOf]; omega
        · have hmx : max (sp + 1) nsp = (sp + 1) := by omega
          rw [hmx] at HF'
          by_cases hlim : ((ls.length + 1 : Nat) : Int) = limit
          · have te : (((ls.length + 1 : Nat) : Int) == limit) = true := by rw [beq_iff_eq]; exact hlim
            have te2 : ((ls.length : Int) + 1 == limit) = true := by rw [beq_iff_eq]; omega
            go_wp2_with (at_builtin; refine wpList_push _ rfl (.tmp 45) (.tmp 47) 27 rfl w4.heap.size 36 i0 (.pointer none) 1 8 Tryf.underlying27 hi hz0 hz1 hz2 rfl (by decide) _ _ _ _ rfl (HO5.out.alloc _) ⟨w5.heap.size, 0, none⟩ 1 1 [.pointer (some ⟨m5, 0, none⟩)] rfl rfl (news_at2 (by simp)) (fun u hu => by simp at hu; subst hu; rfl) (by decide) (by unfold maxLen; omega) (by omega) (by simp; omega) ?_; intro g1 c1 w8 hown hgrow hwhere; have HO' := Lib.hid hown; have HGw := Lib.hid hgrow; have HWh := Lib.hid hwhere; clear hown hgrow hwhere; have hb8 := blk_grown (blk_alloc HQ5.out _) HGw.out (fun e => by have e2 : q = g := Option.some.inj e; omega); have kq8 := blk_cell hb8 0 _ rfl; have hE8 := blk_grown (blk_alloc HE5.out _) HGw.out (fun e => by have e2 : w.heap.size = g := Option.some.inj e; omega); have kE8 := blk_cell hE8 0 _ rfl)
            have HPU := Lib.hid (find_push HO.out HM.out HB.out hw4r HMD.out HB5.out hm5 HR5.out (fun k o hk h => blk_grown (blk_alloc h _) HGw.out (fun e => hk (Option.some.inj e))) (((Below.refl _ _).alloc (by omega) _).trans (one_below HGw.out hg4 (by simp; omega))) (HWh.out.imp (fun h => (Option.some.inj h).symm) (fun h => by simp at h; omega)))
            refine leaves_cons (f := 17) (args := #[.pointer (some ⟨w.heap.size, 0, none⟩)]) (by simp) (by simp [go_sem]) ?_
            refine (find_idle _ _).mono ?_
            rintro e u' w'' ⟨rfl, rfl, rfl⟩
            have hfin := frel_done HW4.out hlen1.symm HO'.out HPU.out.1 HPU.out.2 (HF'.out.trans (if_pos (Or.inl hlim))).symm
            simp [Leaves, settle, results, Tryf.results7, go_sem, kE8]
            exact hfin
          · have te : (((ls.length + 1 : Nat) : Int) == limit) = false := by rw [beq_eq_false_iff_ne]; exact hlim
            have te2 : ((ls.length : Int) + 1 == limit) = false := by rw [beq_eq_false_iff_ne]; omega
            cases must with
            | true =>
              go_wp2_with (at_builtin; refine wpList_push _ rfl (.tmp 45) (.tmp 47) 27 rfl w4.heap.size 36 i0 (.pointer none) 1 8 Tryf.underlying27 hi hz0 hz1 hz2 rfl (by decide) _ _ _ _ rfl (HO5.out.alloc _) ⟨w5.heap.size, 0, none⟩ 1 1 [.pointer (some ⟨m5, 0, none⟩)] rfl rfl (news_at2 (by simp)) (fun u hu => by simp at hu; subst hu; rfl) (by decide) (by unfold maxLen; omega) (by omega) (by simp; omega) ?_; intro g1 c1 w8 hown hgrow hwhere; have HO' := Lib.hid hown; have HGw := Lib.hid hgrow; have HWh := Lib.hid hwhere; clear hown hgrow hwhere; have hb8 := blk_grown (blk_alloc HQ5.out _) HGw.out (fun e => by have e2 : q = g := Option.some.inj e; omega); have kq8 := blk_cell hb8 0 _ rfl; have hE8 := blk_grown (blk_alloc HE5.out _) HGw.out (fun e => by have e2 : w.heap.size = g := Option.some.inj e; omega); have kE8 := blk_cell hE8 0 _ rfl)
              have HPU := Lib.hid (find_push HO.out HM.out HB.out hw4r HMD.out HB5.out hm5 HR5.out (fun k o hk h => blk_grown (blk_alloc h _) HGw.out (fun e => hk (Option.some.inj e))) (((Below.refl _ _).alloc (by omega) _).trans (one_below HGw.out hg4 (by simp; omega))) (HWh.out.imp (fun h => (Option.some.inj h).symm) (fun h => by simp at h; omega)))
              refine leaves_cons (f := 17) (args := #[.pointer (some ⟨w.heap.size, 0, none⟩)]) (by simp) (by simp [go_sem]) ?_
              refine (find_idle _ _).mono ?_
              rintro e u' w'' ⟨rfl, rfl, rfl⟩
              have hfin := frel_done HW4.out hlen1.symm HO'.out HPU.out.1 HPU.out.2 (HF'.out.trans (if_pos (Or.inr (by simp)))).symm
              simp [Leaves, settle, results, Tryf.results7, go_sem, kE8]
              exact hfin
            | false =>
              go_wp2_with (at_builtin; refine wpList_push _ rfl (.tmp 45) (.tmp 47) 27 rfl w4.heap.size 36 i0 (.pointer none) 1 8 Tryf.underlying27 hi hz0 hz1 hz2 rfl (by decide) _ _ _ _ rfl (HO5.out.alloc _) ⟨w5.heap.size, 0, none⟩ 1 1 [.pointer (some ⟨m5, 0, none⟩)] rfl rfl (news_at2 (by simp)) (fun u hu => by simp at hu; subst hu; rfl) (by decide) (by unfold maxLen; omega) (by omega) (by simp; omega) ?_; intro g1 c1 w8 hown hgrow hwhere; have HO' := Lib.hid hown; have HGw := Lib.hid hgrow; have HWh := Lib.hid hwhere; clear hown hgrow hwhere; have hb8 := blk_grown (blk_alloc HQ5.out _) HGw.out (fun e => by have e2 : q = g := Option.some.inj e; omega); have kq8 := blk_cell hb8 0 _ rfl; have hE8 := blk_grown (blk_alloc HE5.out _) HGw.out (fun e => by have e2 : w.heap.size = g := Option.some.inj e; omega); have kE8 := blk_cell hE8 0 _ rfl)
              have HPU := Lib.hid (find_push HO.out HM.out HB.out hw4r HMD.out HB5.out hm5 HR5.out (fun k o hk h => blk_grown (blk_alloc h _) HGw.out (fun e => hk (Option.some.inj e))) (((Below.refl _ _).alloc (by omega) _).trans (one_below HGw.out hg4 (by simp; omega))) (HWh.out.imp (fun h => (Option.some.inj h).symm) (fun h => by simp at h; omega)))
              go_roundw
              case rel => exact ⟨(sp + 1), ls ++ [us], g1, c1, _, by rw [hlen1], by go_num, (by rw [hlen1]; exact HO'.out), HPU.out.1, HPU.out.2, (HF'.out.trans (if_neg (by simp only [Bool.false_eq_true, or_false]; exact hlim))).symm, by rw [hlen1]; omega, by omega⟩
              case measure => simp [intOf]; omega
    · have HF := Lib.hid (HR1.out.symm.trans (find_end zs.length res limit must sp ls hlt))
      have kE := blk_cell HE.out 0 _ rfl
      go_wp2_with fail
      refine leaves_cons (f := 17) (args := #[.pointer (some ⟨w.heap.size, 0, none⟩)]) (by simp) (by simp [go_sem]) ?_
      refine (find_idle _ _).mono ?_
      rintro e u' w'' ⟨rfl, rfl, rfl⟩
      have hfin := frel_done HW4.out rfl HO.out HM.out HB.out HF.out.symm
      simp [Leaves, settle, results, Tryf.results7, go_sem, kE]
      exact hfin



section
variable {w : World} {b : Nat} {sao : Option Addr} {scap : Nat} {s : Nat}
theorem peek_nil {c : Nat} (h : Scan w b sao scap [] c s) :
    Calls Tryf.prog 24 #[.pointer (some ⟨b, 0, none⟩)] w fun e w' => e = .returned (.int .i64 (-1)) ∧ Scan w' b sao scap [] 1 s ∧ w.grownBy w' (some b) := by
  have hc : c ≤ 1 := h.cb
  refine (peek_any h).mono fun e w' ⟨h1, h2, h3⟩ => ⟨h1, ?_, h3⟩
  have e1 : peekC ([] : List Int).length c = 1 := by
    have hc2 : c = 0 ∨ c = 1 := by clear h1 h2 h3; omega
    rcases hc2 with rfl | rfl <;> rfl
  rw [e1] at h2
  exact h2
set_option maxRecDepth 1000000 in
set_option maxHeartbeats 1000000 in
theorem parsePat_nil (h : Scan w b sao scap [] 0 s) : Calls Tryf.prog 18 #[.pointer (some ⟨b, 0, none⟩), .bool true] w (PatPost w b sao scap [] false false [] 1) := by
  have hbw := Lib.hid (blk_lt h.blk)
  have HO := Lib.hid (patO_start w)
  have HS := Lib.hid (h.grownAlloc (.cells #[.bool false, .bool false, .slice none 0 0] 76))
  have HG := Lib.hid (one_alloc (one_refl w (some b)) (.cells #[.bool false, .bool false, .slice none 0 0] 76))
  clear h
  go_enter Tryf.func18, Tryf.ntmps18
  go_wp2_with fail
  refine wp_scope_exit 0 rfl (fun _ _ _ h => h) ?_
  go_wp2_with fail
  generalize w.alloc (.cells #[.bool false, .bool false, .slice none 0 0] 76) = w0 at *
  refine (peek_nil HS.out).mono ?_
  rintro e w1 ⟨rfl, hs1, hg1⟩
  have HO1 := Lib.hid (HO.out.call hg1 hbw.out)
  have HS1 := Lib.hid hs1
  have HG1 := Lib.hid (one_trans HG.out hg1)
  clear hs1 hg1
  go_wp2_with fail
  refine wp_loop_ghost (fun n a' w' => a' = _ ∧ w' = w1) 0 ⟨rfl, rfl⟩ ?_
  rintro n a' w' ⟨rfl, rfl⟩
  go_wp2_with fail
  refine (peek_nil HS1.out).mono ?_
  rintro e w2 ⟨rfl, hs2, hg2⟩
  have HO2 := Lib.hid (HO1.out.call hg2 hbw.out)
  have HS2 := Lib.hid hs2
  have HG2 := Lib.hid (one_trans HG1.out hg2)
  clear hs2 hg2
  go_wp2_with fail
  refine (next_top HS2.out (Nat.zero_le _)).mono ?_
  rintro e w3 ⟨rfl, hs3, hg3⟩
  have HO3 := Lib.hid (HO2.out.call hg3 hbw.out)
  have HS3 := Lib.hid hs3
  have HG3 := Lib.hid (one_trans HG2.out hg3)
  clear hs3 hg3
  go_wp2_with fail
  go_step3
  refine ⟨rfl, ?_⟩
  go_wp2_with fail
  go_ret
  exact patPost_mk rfl HO3.out HS3.out HG3.out

end

end Go.Proofs.YtcfhhcjcnafcjaaFmt
