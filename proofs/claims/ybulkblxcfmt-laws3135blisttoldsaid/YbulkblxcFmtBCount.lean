import Derived.Test.YbulkblxcFmtBBytes
import Derived.Test.YbulkblxcFmtBForm
import Derived.Deep.CutRange
namespace Go.Proofs.YbulkblxcFmt
open Go.RowKit Go.Extern.Stop Go.Stop Go.Extern
set_option linter.unusedVariables false

theorem loadVar_agg (t : TypeId) (k : Nat) (w : World) (B : Nat) (vs : List Value) (hk : vs.length = k) (hsz : (Ybaf.prog.info? t).map (·.size) = some k) (hagg : (isAgg t).run Ybaf.prog w = .ok true w)
    (h : ∀ j v, vs[j]? = some v → w.cell? ⟨B, j, none⟩ = some v) :
    (loadVar t ⟨B, 0, none⟩).run Ybaf.prog w = .ok (.agg vs.toArray) w := by
  have hl : (loadCells ⟨B, 0, none⟩ vs.length).run Ybaf.prog w = .ok vs.toArray w :=
    run_loadCells_list (P := Ybaf.prog) w ⟨B, 0, none⟩ vs (fun j v hv => by
      have hadd : (⟨B, 0, none⟩ : Addr).add j = ⟨B, j, none⟩ := by unfold Addr.add; split <;> simp_all
      rw [hadd]
      exact h j v hv)
  rw [hk] at hl
  cases hq : Ybaf.prog.info? t with
  | none => simp [hq] at hsz
  | some i =>
    have hs : i.size = k := by simpa [hq] using hsz
    simp [loadVar, Sem.run_bind, hagg, sizeOf, typeInfo, hq, hs, hl]

theorem loadVar72 (w : World) (B : Nat) (v0 v1 v2 v3 : Value) (h0 : w.cell? ⟨B, 0, none⟩ = some v0) (h1 : w.cell? ⟨B, 1, none⟩ = some v1) (h2 : w.cell? ⟨B, 2, none⟩ = some v2) (h3 : w.cell? ⟨B, 3, none⟩ = some v3) :
    (loadVar 72 ⟨B, 0, none⟩).run Ybaf.prog w = .ok (.agg #[v0, v1, v2, v3]) w :=
  loadVar_agg 72 4 w B [v0, v1, v2, v3] rfl (by kernel_rfl) (by unfold isAgg; rw [Sem.run_bind, run_underlying Ybaf.underlying72 w]; rfl) (fun j v hv => by
    match j, hv with
    | 0, hv => simp at hv; subst hv; exact h0
    | 1, hv => simp at hv; subst hv; exact h1
    | 2, hv => simp at hv; subst hv; exact h2
    | 3, hv => simp at hv; subst hv; exact h3)

theorem results18 (tmps : Array Value) (w : World) (B : Nat) (v0 v1 v2 v3 a b c : Value) (ha : tmps.getD 2 undef = a) (hp : tmps.getD 3 undef = .pointer (some ⟨B, 0, none⟩)) (hb : tmps.getD 4 undef = b) (hc : tmps.getD 5 undef = c)
    (h0 : w.cell? ⟨B, 0, none⟩ = some v0) (h1 : w.cell? ⟨B, 1, none⟩ = some v1) (h2 : w.cell? ⟨B, 2, none⟩ = some v2) (h3 : w.cell? ⟨B, 3, none⟩ = some v3) :
    (results Ybaf.f18 tmps).run Ybaf.prog w = .ok (.tuple #[a, .agg #[v0, v1, v2, v3], b, c]) w := by
  have ha' : tmps[2]?.getD undef = a := by simpa using ha
  have hp' : tmps[3]?.getD undef = .pointer (some ⟨B, 0, none⟩) := by simpa using hp
  have hb' : tmps[4]?.getD undef = b := by simpa using hb
  have hc' : tmps[5]?.getD undef = c := by simpa using hc
  simp [results, ha', hp', hb', hc', asAddr, loadVar72 w B v0 v1 v2 v3 h0 h1 h2 h3]

/-- No universal header: no count, no form, no error. -/
def ScNone (w : World) (e : Ending) (w' : World) : Prop :=
  e = .returned (.tuple #[.int .u64 0, .agg #[.int .u64 0, .int .i64 0, .int .i64 0, .int .i64 0], .bool false, .nilIface]) ∧ Below w.heap.size w w'
def ScErr (w : World) (e : Ending) (w' : World) : Prop :=
  ∃ p : Nat, e = .returned (.tuple #[.int .u64 0, .agg #[.int .u64 0, .int .i64 0, .int .i64 0, .int .i64 0], .bool false, .iface 150 (.pointer (some ⟨p, 0, none⟩))]) ∧ Below w.heap.size w w'

/-- The four cells of a sliceForm. -/
def FormAt (w : World) (Q : Nat) (v0 v1 v2 v3 : Value) : Prop := w.heap[Q]? = some (.cells #[v0, v1, v2, v3] 72 (0, 0))
theorem FormAt.c {w : World} {Q : Nat} {v0 v1 v2 v3 : Value} (h : FormAt w Q v0 v1 v2 v3) (j : Nat) : w.cell? ⟨Q, j, none⟩ = (#[v0, v1, v2, v3] : Array Value)[j]? := cell_of_row _ _ _ _ _ _ h
theorem FormAt.free {w : World} {Q : Nat} {v0 v1 v2 v3 : Value} (h : FormAt w Q v0 v1 v2 v3) (j : Nat) : w.frozen? ⟨Q, j, none⟩ = false := by
  have h' : w.heap[Q]? = _ := h
  simp [World.frozen?, h']
theorem FormAt.below {B : Nat} {w w' : World} {Q : Nat} {v0 v1 v2 v3 : Value} (h : FormAt w Q v0 v1 v2 v3) (hb : Below B w w') (hQ : Q < B) : FormAt w' Q v0 v1 v2 v3 := (hb.block Q hQ).trans h
theorem FormAt.lt {w : World} {Q : Nat} {v0 v1 v2 v3 : Value} (h : FormAt w Q v0 v1 v2 v3) : Q < w.heap.size := (Array.getElem?_eq_some_iff.1 h).1
theorem FormAt.put {w : World} {Q : Nat} {v0 v1 v2 v3 : Value} (h : FormAt w Q v0 v1 v2 v3) (u0 u1 u2 u3 : Value) :
    FormAt ((((w.setCell ⟨Q, 0, none⟩ u0).setCell ⟨Q, 1, none⟩ u1).setCell ⟨Q, 2, none⟩ u2).setCell ⟨Q, 3, none⟩ u3) Q u0 u1 u2 u3 := by
  unfold FormAt
  rw [heap_setCell_same _ _ _ _ _ _ (heap_setCell_same _ _ _ _ _ _ (heap_setCell_same _ _ _ _ _ _ (heap_setCell_same _ _ _ _ _ _ h)))]
  rfl

abbrev zForm : Obj := .cells #[.int .u64 0, .int .i64 0, .int .i64 0, .int .i64 0] 72

set_option maxHeartbeats 1000000 in
set_option maxRecDepth 100000 in
theorem sc_fail (F : Interp) (e0 : Addr) (B0 bf R C D o n cap : Nat) (bs : Nat → Int) (w : World) (P : MoW B0 bf w) (hF : F.answers w.tape) (hE : EofAt w e0) (he : e0.block < w.heap.size) (H : RbAt R C D o n cap bs true w) (hn : 0 < n) :
    Calls Ybaf.prog 18 #[.pointer (some ⟨R, 0, none⟩)] w fun e w' => ScErr w e w' := by
  have hb0 : Below w.heap.size w (w.alloc zForm) := (Below.refl _ _).alloc (Nat.le_refl _) _
  have f0 : FormAt (w.alloc zForm) w.heap.size _ _ _ _ := heap_alloc_new w _
  have h7 : 7 < w.heap.size := World.block_lt_of_cell? w _ hE.var
  have hby := bbytes_fail F e0 R C D o n cap 0 8 bs (w.alloc zForm) hF (hE.below hb0 h7 he) (by simp; omega) (H.below hb0) hn (by omega)
  have hP := P.below (hb0.mono P.hB)
  clear H hE hF
  go_enter Ybaf.func18, Ybaf.ntmps18
  go_wp2_with fail
  refine hby.mono ?_
  rintro e w1 ⟨B, m, p, ab, rfl, hk1, hp⟩
  have hb1 := hb0.trans (hk1.mono (by simp))
  have hP1 := hP.below (hk1.mono hP.hB)
  clear hby
  go_wp2_with fail
  refine (isOut_miss p ab _ hP1.errT hp).mono ?_
  rintro e w2 ⟨rfl, hb⟩
  have hb2 := hb1.trans (hb.mono hb1.size)
  have f2 := (f0.below hk1 (by simp)).below hb (f0.below hk1 (by simp)).lt
  have c0 := f2.c 0
  have c1 := f2.c 1
  have c2 := f2.c 2
  have c3 := f2.c 3
  have hfr := f2.free
  go_wp2
  (try simp only [Exit.inBlock, Exit.then])
  refine bodyPost_ret (results18 _ _ w.heap.size _ _ _ _ _ _ _ rfl rfl rfl rfl ((f2.put _ _ _ _).c 0) ((f2.put _ _ _ _).c 1) ((f2.put _ _ _ _).c 2) ((f2.put _ _ _ _).c 3)) rfl ?_
  refine ⟨_, rfl, ?_⟩
  exact (((hb2.setCell (p := ⟨w.heap.size, 0, none⟩) (Nat.le_refl _) _).setCell (p := ⟨w.heap.size, 1, none⟩) (Nat.le_refl _) _).setCell (p := ⟨w.heap.size, 2, none⟩) (Nat.le_refl _) _).setCell (p := ⟨w.heap.size, 3, none⟩) (Nat.le_refl _) _

theorem sc_end {w wx : World} (hb : Below w.heap.size w wx) (u0 u1 u2 u3 : Value) : Below w.heap.size w ((((wx.setCell ⟨w.heap.size, 0, none⟩ u0).setCell ⟨w.heap.size, 1, none⟩ u1).setCell ⟨w.heap.size, 2, none⟩ u2).setCell ⟨w.heap.size, 3, none⟩ u3) :=
  (((hb.setCell (p := ⟨w.heap.size, 0, none⟩) (Nat.le_refl _) _).setCell (p := ⟨w.heap.size, 1, none⟩) (Nat.le_refl _) _).setCell (p := ⟨w.heap.size, 2, none⟩) (Nat.le_refl _) _).setCell (p := ⟨w.heap.size, 3, none⟩) (Nat.le_refl _) _

set_option maxHeartbeats 1000000 in
set_option maxRecDepth 100000 in
theorem sc_zero (B0 bf R C D o cap : Nat) (bs : Nat → Int) (fl : Bool) (w : World) (P : MoW B0 bf w) (H : RbAt R C D o 0 cap bs fl w) :
    Calls Ybaf.prog 18 #[.pointer (some ⟨R, 0, none⟩)] w fun e w' => ScNone w e w' := by
  have hb0 : Below w.heap.size w (w.alloc zForm) := (Below.refl _ _).alloc (Nat.le_refl _) _
  have f0 : FormAt (w.alloc zForm) w.heap.size _ _ _ _ := heap_alloc_new w _
  have hby := bbytes_none R C D o 0 cap 0 8 bs fl (w.alloc zForm) (H.below hb0) (by omega) (by omega)
  have hP := P.below (hb0.mono P.hB)
  clear H
  go_enter Ybaf.func18, Ybaf.ntmps18
  go_wp2_with fail
  refine hby.mono ?_
  rintro e w1 ⟨rfl, hw1⟩
  have hk1 : Below (w.alloc zForm).heap.size (w.alloc zForm) w1 := by rw [hw1]; exact (Below.refl _ _).alloc (Nat.le_refl _) _
  have hb1 := hb0.trans (hk1.mono (by simp))
  have hP1 := hP.below (hk1.mono hP.hB)
  clear hby hw1
  go_wp2_with fail
  refine (isOut_hit _ _ hP1.errT).mono ?_
  rintro e w2 ⟨rfl, hb⟩
  have hb2 := hb1.trans (hb.mono hb1.size)
  have f2 := (f0.below hk1 (by simp)).below hb (f0.below hk1 (by simp)).lt
  have c0 := f2.c 0
  have c1 := f2.c 1
  have c2 := f2.c 2
  have c3 := f2.c 3
  have hfr := f2.free
  go_wp2
  (try simp only [Exit.inBlock, Exit.then])
  refine bodyPost_ret (results18 _ _ w.heap.size _ _ _ _ _ _ _ rfl rfl rfl rfl ((f2.put _ _ _ _).c 0) ((f2.put _ _ _ _).c 1) ((f2.put _ _ _ _).c 2) ((f2.put _ _ _ _).c 3)) rfl ?_
  exact ⟨rfl, sc_end hb2 _ _ _ _⟩

set_option maxHeartbeats 1000000 in
set_option maxRecDepth 100000 in
theorem sc_part (B0 bf R C D o n cap : Nat) (bs : Nat → Int) (w : World) (P : MoW B0 bf w) (H : RbAt R C D o n cap bs false w) (h0 : 0 < n) (h8 : n < 8) :
    Calls Ybaf.prog 18 #[.pointer (some ⟨R, 0, none⟩)] w fun e w' => ScNone w e w' := by
  have hb0 : Below w.heap.size w (w.alloc zForm) := (Below.refl _ _).alloc (Nat.le_refl _) _
  have f0 : FormAt (w.alloc zForm) w.heap.size _ _ _ _ := heap_alloc_new w _
  have hby := bbytes_part R C D o n cap 0 8 (n - 0) bs (w.alloc zForm) (H.below hb0) (by omega) (by omega) rfl
  have hP := P.below (hb0.mono P.hB)
  clear H
  go_enter Ybaf.func18, Ybaf.ntmps18
  go_wp2_with fail
  refine hby.mono ?_
  rintro e w1 ⟨rfl, hg⟩
  have hk1 : Below (w.alloc zForm).heap.size (w.alloc zForm) w1 := ((Below.refl _ _).alloc (Nat.le_refl _) _).trans (hg.bel.mono (by simp))
  have hb1 := hb0.trans (hk1.mono (by simp))
  have hP1 := hP.below (hk1.mono hP.hB)
  clear hby hg
  go_wp2_with fail
  refine (isOut_hit _ _ hP1.errT).mono ?_
  rintro e w2 ⟨rfl, hb⟩
  have hb2 := hb1.trans (hb.mono hb1.size)
  have f2 := (f0.below hk1 (by simp)).below hb (f0.below hk1 (by simp)).lt
  have c0 := f2.c 0
  have c1 := f2.c 1
  have c2 := f2.c 2
  have c3 := f2.c 3
  have hfr := f2.free
  go_wp2
  (try simp only [Exit.inBlock, Exit.then])
  refine bodyPost_ret (results18 _ _ w.heap.size _ _ _ _ _ _ _ rfl rfl rfl rfl ((f2.put _ _ _ _).c 0) ((f2.put _ _ _ _).c 1) ((f2.put _ _ _ _).c 2) ((f2.put _ _ _ _).c 3)) rfl ?_
  exact ⟨rfl, sc_end hb2 _ _ _ _⟩

set_option maxHeartbeats 400000 in
theorem table_end (c es : Int) (v1 v2 v3 : Value) (w : World) (h0 : 0 ≤ c * es) (h1 : c * es ≤ 1000000) :
    Calls Ybaf.prog 20 #[.agg #[.int .u64 es, v1, v2, v3], .int .u64 c] w fun e w' => e = .returned (.int .u64 (8 + c * es)) ∧ w' = w.alloc (.cells #[.int .u64 es, v1, v2, v3] 72) := by
  go_enter Ybaf.func20, Ybaf.ntmps20
  go_wp2
  go_ret
  exact ⟨rfl, rfl⟩

theorem KeepsC.setCell {C : Nat} {a w : World} (h : KeepsC C a w) (i : Nat) (v : Value) : KeepsC C a (w.setCell ⟨C, i, none⟩ v) :=
  h.trans ⟨rfl, rfl, rfl, by simp [World.setCell], fun b hb hne => Below.heap_setCell _ _ _ _ hne⟩

theorem KeepsC.drew1 {C : Nat} {a w : World} (h : KeepsC C a w) : KeepsC C a w.drew := ⟨h.os, h.tape, h.output, h.size, h.block⟩

/-- The universal header's outcome at a file of eight bytes or more. -/
def scOk (n : Nat) (bs : Nat → Int) : Bool := isForm (be4 bs 0) && (decide (be4 bs 4 ≤ 30) && decide (8 + be4 bs 4 * fEs (be4 bs 0) ≤ (n : Int)))
def ScYes (bs : Nat → Int) (w : World) (e : Ending) (w' : World) : Prop :=
  e = .returned (.tuple #[.int .u64 (be4 bs 4), .agg #[.int .u64 (fEs (be4 bs 0)), .int .i64 (fOf (be4 bs 0)), .int .i64 (fSz (be4 bs 0)), .int .i64 (fWd (be4 bs 0))], .bool true, .nilIface]) ∧ Below w.heap.size w w'

def ScPost (n : Nat) (bs : Nat → Int) (w : World) (e : Ending) (w' : World) : Prop := if scOk n bs then ScYes bs w e w' else ScNone w e w'
theorem ScPost.no {n : Nat} {bs : Nat → Int} {w : World} {e : Ending} {w' : World} (h : scOk n bs = false) (k : ScNone w e w') : ScPost n bs w e w' := by rw [ScPost, h]; exact k
theorem ScPost.yes {n : Nat} {bs : Nat → Int} {w : World} {e : Ending} {w' : World} (h : scOk n bs = true) (k : ScYes bs w e w') : ScPost n bs w e w' := by rw [ScPost, h]; exact k

theorem be4_bd {w : World} {g o n : Nat} {bs : Nat → Int} (h : Bytes w g o n bs) (off : Nat) (hn : off + 4 ≤ n) : 0 ≤ be4 bs off ∧ be4 bs off ≤ 4294967295 :=
  le4_bd (h.bd _ (by omega)) (h.bd _ (by omega)) (h.bd _ (by omega)) (h.bd _ (by omega))

set_option maxHeartbeats 4000000 in
set_option maxRecDepth 100000 in
theorem sc_any (B0 bf R C D o n cap : Nat) (bs : Nat → Int) (w : World) (P : MoW B0 bf w) (H : RbAt R C D o n cap bs false w) (h8 : 8 ≤ n) :
    Calls Ybaf.prog 18 #[.pointer (some ⟨R, 0, none⟩)] w fun e w' => ScPost n bs w e w' := by
  have hb0 : Below w.heap.size w (w.alloc zForm) := (Below.refl _ _).alloc (Nat.le_refl _) _
  have f0 : FormAt (w.alloc zForm) w.heap.size _ _ _ _ := heap_alloc_new w _
  have hby := bbytes_ok R C D o n cap 0 8 bs (w.alloc zForm) (H.below hb0) (by omega) (by omega)
  have hP := P.below (hb0.mono P.hB)
  have bd0 := be4_bd H.data 0 (by omega)
  have bd4 := be4_bd H.data 4 (by omega)
  go_enter Ybaf.func18, Ybaf.ntmps18
  go_wp2_with fail
  refine hby.mono ?_
  rintro e w1 ⟨rfl, hg⟩
  have hb1 := hb0.trans (hg.bel.mono (by simp))
  have hP1 := hP.below (hg.bel.mono hP.hB)
  clear hby
  go_wp2_with fail
  refine (isOut_nil _).mono ?_
  rintro e w2 ⟨rfl, hb⟩
  have hb2 := hb1.trans (hb.mono hb1.size)
  have f2 := (f0.below hg.bel (by simp)).below hb (f0.below hg.bel (by simp)).lt
  have hrow := hg.row.below hb hg.here
  have hBw := Nat.lt_of_lt_of_le hg.here hb.size
  have hP2 := hP1.below (hb.mono hP1.hB)
  have hR := H.hR
  have r1 : w2.cell? ⟨R, 1, none⟩ = some (.int .u64 (n : Int)) := (hb2.cell (p := ⟨R, 1, none⟩) hR).trans H.r1
  have hn := H.hn
  clear hg hb1 hP hP1 hb hb0 f0 H P
  obtain ⟨q, hq⟩ : ∃ q, be4 bs 0 = q := ⟨_, rfl⟩
  have hq' : le4 ((fun j => bs (0 + j)) 3) ((fun j => bs (0 + j)) 2) ((fun j => bs (0 + j)) 1) ((fun j => bs (0 + j)) 0) = q := hq
  have HQ : Hid (le4 ((fun j => bs (0 + j)) 3) ((fun j => bs (0 + j)) 2) ((fun j => bs (0 + j)) 1) ((fun j => bs (0 + j)) 0) = q) := hq'
  rw [hq] at bd0
  have HB : Hid (be4 bs 0 = q) := hq
  clear hq hq'
  have HROW : Hid (∀ wx, Below w2.heap.size w2 wx → Bytes wx (w.heap.size + 1) 0 8 (fun j => bs (0 + j))) := fun wx hx => by
    have := hrow.below hx hBw
    rw [show (w.alloc zForm).heap.size = w.heap.size + 1 from by simp] at this
    exact this
  have hbf2 := Nat.lt_of_lt_of_le hP2.hbf hP2.hB
  have hlook := hP2.look
  have hl : ∀ wx, Below w2.heap.size w2 wx → (Instr.lookup 103 (.map (some bf)) (.int .u32 q) true).run Ybaf.prog wx = .ok (.tuple #[.agg #[.int .u64 (fEs q), .int .i64 (fOf q), .int .i64 (fSz q), .int .i64 (fWd q)], .bool (isForm q)]) wx :=
    fun wx hx => hlook wx (hx.block _ hbf2) q bd0.1 bd0.2
  have hl1 : ∀ (ob : Obj) (k : Nat), (Instr.lookup 103 (.map (some bf)) (.int .u32 q) true).run Ybaf.prog ((w2.alloc ob).drewN k) = .ok (.tuple #[.agg #[.int .u64 (fEs q), .int .i64 (fOf q), .int .i64 (fSz q), .int .i64 (fWd q)], .bool (isForm q)]) ((w2.alloc ob).drewN k) :=
    fun ob k => hl _ (below_drewN ((Below.refl _ _).alloc (Nat.le_refl _) _) _)
  have hl2 : ∀ (ob : Obj) (k : Nat), (Instr.lookup 103 (.map (some bf)) (.int .u32 q) true).run Ybaf.prog ((w2.drew.alloc ob).drewN k) = .ok (.tuple #[.agg #[.int .u64 (fEs q), .int .i64 (fOf q), .int .i64 (fSz q), .int .i64 (fWd q)], .bool (isForm q)]) ((w2.drew.alloc ob).drewN k) :=
    fun ob k => hl _ (below_drewN (((Below.refl _ _).drew).alloc (Nat.le_refl _) _) _)
  have gf := hP2.forms
  have hs0 : 9 ≤ w2.heap.size := Nat.le_trans hP2.h9 hP2.hB
  have hs1 : 4 < w2.heap.size := by omega
  have hs2 : 0 < w2.heap.size := by omega
  have hs3 : 4 < w2.heap.size + 1 := by omega
  have hQ : w.heap.size < w2.heap.size := f2.lt
  have c0 := f2.c 0
  have c1 := f2.c 1
  have c2 := f2.c 2
  have c3 := f2.c 3
  have hfr := f2.free
  have hsz : (w.alloc zForm).heap.size = w.heap.size + 1 := by simp
  rw [hsz] at hrow hBw
  clear hlook hl hsz
  go_upto_region 6 with fail
  go_cut [4] from 7 (fun s4 wx => s4 = .bool (isForm q) ∧ KeepsC w.heap.size w2 wx ∧ FormAt wx w.heap.size (.int .u64 (fEs q)) (.int .i64 (fOf q)) (.int .i64 (fSz q)) (.int .i64 (fWd q)))
  case first =>
    go_region_with (go_at_call 13; refine (be_uint32 (w.heap.size + 1) 0 8 8 (fun j => bs (0 + j)) _ (by omega) (HROW.out _ (by repeat (first | exact Below.refl _ _ | refine below_drewN ?_ _ | refine Below.drew ?_ | refine Below.alloc ?_ (by simp) _)))).mono ?_; rw [HQ.out]; rintro e w' ⟨rfl, nq, rfl⟩)
    all_goals go_wp2
    all_goals go_meet
    all_goals refine ⟨rfl, ?_, ?_⟩
    all_goals (first
      | (repeat (first | exact KeepsC.refl _ _ | refine KeepsC.drewN ?_ _ | refine KeepsC.setCell ?_ _ _ | refine KeepsC.alloc ?_ _ | refine KeepsC.drew1 ?_)); done
      | exact FormAt.put (f2.below (B := w2.heap.size) (by repeat (first | exact Below.refl _ _ | refine below_drewN ?_ _ | refine Below.drew ?_ | refine Below.alloc ?_ (by simp) _)) hQ) _ _ _ _)
  case rest =>
    obtain ⟨rfl, hk3, f3⟩ := hcut
    have hb3 : Below w.heap.size w wc := hb2.trans (hk3.below (Nat.le_refl _) (Nat.le_of_lt hQ))
    have c0 := f3.c 0
    have c1 := f3.c 1
    have c2 := f3.c 2
    have c3 := f3.c 3
    have hfr3 := f3.free
    have hrow3 : Bytes wc (w.heap.size + 1) 0 8 (fun j => bs (0 + j)) := hrow.of_block (hk3.block _ hBw (by omega))
    have hR1 : wc.cell? ⟨R, 1, none⟩ = some (.int .u64 (n : Int)) := (hk3.cell (Nat.lt_trans hR hQ) (by omega)).trans r1
    have hsw : w.heap.size < wc.heap.size := f3.lt
    have hs3' : 9 ≤ wc.heap.size := Nat.le_trans hs0 hk3.size
    clear hrow hBw r1 hk3 f2 hfr hl1 hl2 gf hs0 hs1 hs2 hs3 hQ HROW hbf2 hP2 hb2 HQ
    cases hf : isForm q
    · have HN : Hid (scOk n bs = false) := by show _ = _; rw [scOk, HB.out, hf]; rfl
      clear hf
      go_wp2
      (try simp only [Exit.inBlock, Exit.then])
      refine bodyPost_ret (results18 _ _ w.heap.size _ _ _ _ _ _ _ rfl rfl rfl rfl ((f3.put _ _ _ _).c 0) ((f3.put _ _ _ _).c 1) ((f3.put _ _ _ _).c 2) ((f3.put _ _ _ _).c 3)) rfl ?_
      exact ScPost.no HN.out ⟨rfl, sc_end hb3 _ _ _ _⟩
    · have HF : Hid (isForm q = true) := hf
      clear hf
      obtain ⟨c, hc⟩ : ∃ c : Nat, be4 bs 4 = (c : Int) := ⟨(be4 bs 4).toNat, (Int.toNat_of_nonneg bd4.1).symm⟩
      have hc' : le4 ((fun j => bs (4 + j)) 3) ((fun j => bs (4 + j)) 2) ((fun j => bs (4 + j)) 1) ((fun j => bs (4 + j)) 0) = (c : Int) := hc
      have HC : Hid (be4 bs 4 = (c : Int)) := hc
      have HC' : Hid (le4 ((fun j => bs (4 + j)) 3) ((fun j => bs (4 + j)) 2) ((fun j => bs (4 + j)) 1) ((fun j => bs (4 + j)) 0) = (c : Int)) := hc'
      rw [hc] at bd4
      clear hc hc'
      have hrow4 : Bytes wc (w.heap.size + 1) 4 4 (fun j => bs (4 + j)) := fun j hj => by
        have h1 := hrow3 (4 + j) (by omega)
        rw [Nat.zero_add] at h1
        simp only [Nat.zero_add] at h1
        exact h1
      have HROW : Hid (∀ wx, Below wc.heap.size wc wx → Bytes wx (w.heap.size + 1) 4 4 (fun j => bs (4 + j))) := fun wx hx => hrow4.below hx (World.block_lt_of_cell? wc _ (hrow4.at 0 (by omega)))
      clear hrow3 hrow4
      go_upto_region 9 with fail
      go_cut [2] from 7 (fun s2 wx => s2 = .int .u64 (c : Int) ∧ Below wc.heap.size wc wx)
      case first =>
        go_region_with (go_at_call 13; refine (be_uint32 (w.heap.size + 1) 4 4 4 (fun j => bs (4 + j)) _ (by omega) (HROW.out _ (by repeat (first | exact Below.refl _ _ | refine below_drewN ?_ _ | refine Below.drew ?_ | refine Below.alloc ?_ (by simp) _)))).mono ?_; rw [HC'.out]; rintro e w' ⟨rfl, nq, rfl⟩)
        all_goals go_wp2
        all_goals go_meet
        all_goals refine ⟨by rw [wrap_u64_small (by omega) (by omega)], ?_⟩
        all_goals (repeat (first | exact Below.refl _ _ | refine below_drewN ?_ _ | refine Below.drew ?_ | refine Below.alloc ?_ (by simp) _))
      case rest =>
        obtain ⟨rfl, hb4⟩ := hcut
        have f4 := f3.below hb4 hsw
        have hb5 : Below w.heap.size w wc := hb3.trans (hb4.mono (Nat.le_of_lt hsw))
        have d0 := f4.c 0
        have d1 := f4.c 1
        have d2 := f4.c 2
        have d3 := f4.c 3
        have hfr4 := f4.free
        have hR4 : wc.cell? ⟨R, 1, none⟩ = some (.int .u64 (n : Int)) := (hb4.cell (p := ⟨R, 1, none⟩) (Nat.lt_trans hR hsw)).trans hR1
        have hsw4 := f4.lt
        clear c0 c1 c2 c3 hfr3 hR1 hsw f3 hb3 hb4 hs3' HROW HC'
        by_cases h30 : c ≤ 30
        · obtain ⟨es, hes, hes2⟩ : ∃ es : Nat, fEs q = (es : Int) ∧ (es = 20 ∨ es = 32) := by
            have := HF.out
            simp [isForm] at this
            rcases this with rfl | rfl
            · exact ⟨20, rfl, Or.inl rfl⟩
            · exact ⟨32, rfl, Or.inr rfl⟩
          have hm : c * es ≤ 960 := by rcases hes2 with rfl | rfl <;> omega
          have hm0 : 0 ≤ (c : Int) * (es : Int) := by rw [← Int.natCast_mul]; omega
          have hm1 : (c : Int) * (es : Int) ≤ 960 := by rw [← Int.natCast_mul]; omega
          have HES : Hid (fEs q = (es : Int)) := hes
          rw [hes] at d0 f4
          clear hes
          have h30' : ¬ (30 : Int) < (c : Int) := by omega
          by_cases hfit : 8 + (c : Int) * (es : Int) ≤ (n : Int)
          · have HY : Hid (scOk n bs = true) := by show _ = _; rw [scOk, HB.out, HF.out, HC.out, HES.out, decide_eq_true hfit, decide_eq_true (show (c : Int) ≤ 30 by omega)]; rfl
            go_upto_region 12 with (first | (go_at_call 20; refine (table_end (c : Int) (es : Int) _ _ _ _ hm0 (by omega)).mono ?_; rintro e w' ⟨rfl, rfl⟩) | (go_at_call 33; refine (check_ok R 0 (8 + (c : Int) * (es : Int)) (n : Int) _ (by omega) (by omega) (by omega) (by omega) (by exact cellOld _ hR4)).mono ?_; rintro e w' ⟨rfl, rfl⟩))
            go_region
            go_wp2
            (try simp only [Exit.inBlock, Exit.then])
            have f6 : FormAt _ w.heap.size _ _ _ _ := (f4.put (.int .u64 (es : Int)) (.int .i64 (fOf q)) (.int .i64 (fSz q)) (.int .i64 (fWd q))).below (((Below.refl _ _).alloc (Nat.le_refl _) (.cells #[.int .u64 (es : Int), .int .i64 (fOf q), .int .i64 (fSz q), .int .i64 (fWd q)] 72)).drew) (by simpa using hsw4)
            refine bodyPost_ret (results18 _ _ w.heap.size _ _ _ _ _ _ _ rfl rfl rfl rfl (f6.c 0) (f6.c 1) (f6.c 2) (f6.c 3)) rfl ?_
            refine ScPost.yes HY.out ⟨?_, ((sc_end hb5 _ _ _ _).alloc (by simp; omega) _).drew⟩
            rw [HC.out, HB.out, HES.out]
            rfl
          · have HN : Hid (scOk n bs = false) := by show _ = _; rw [scOk, HB.out, HF.out, HC.out, HES.out, decide_eq_false hfit]; simp
            go_wp2_with (first | (go_at_call 20; refine (table_end (c : Int) (es : Int) _ _ _ _ hm0 (by omega)).mono ?_; rintro e w' ⟨rfl, rfl⟩) | (go_at_call 33; refine (check_out R 0 (8 + (c : Int) * (es : Int)) (n : Int) _ (by omega) (by omega) (by omega) (by omega) (by omega) (by omega) (by exact cellOld _ hR4)).mono ?_; rintro e w' ⟨rfl, rfl⟩))
            (try simp only [Exit.inBlock, Exit.then])
            have f6 : FormAt _ w.heap.size _ _ _ _ := ((f4.put (.int .u64 0) (.int .i64 0) (.int .i64 0) (.int .i64 0)).below ((Below.refl _ _).alloc (Nat.le_refl _) (.cells #[.int .u64 (es : Int), .int .i64 (fOf q), .int .i64 (fSz q), .int .i64 (fWd q)] 72)) (by simpa using hsw4)).below ((Below.refl _ _).alloc (Nat.le_refl _) (outBox 0 (8 + (c : Int) * (es : Int)) n)) (by simp; omega)
            refine bodyPost_ret (results18 _ _ w.heap.size _ _ _ _ _ _ _ rfl rfl rfl rfl (f6.c 0) (f6.c 1) (f6.c 2) (f6.c 3)) rfl ?_
            exact ScPost.no HN.out ⟨rfl, ((sc_end hb5 _ _ _ _).alloc (by simp; omega) _).alloc (by simp; omega) _⟩
        · have HN : Hid (scOk n bs = false) := by show _ = _; rw [scOk, HC.out, decide_eq_false (show ¬ (c : Int) ≤ 30 by omega)]; simp
          have h30' : (30 : Int) < (c : Int) := by omega
          go_wp2
          (try simp only [Exit.inBlock, Exit.then])
          refine bodyPost_ret (results18 _ _ w.heap.size _ _ _ _ _ _ _ rfl rfl rfl rfl ((f4.put _ _ _ _).c 0) ((f4.put _ _ _ _).c 1) ((f4.put _ _ _ _).c 2) ((f4.put _ _ _ _).c 3)) rfl ?_
          exact ScPost.no HN.out ⟨rfl, sc_end hb5 _ _ _ _⟩

end Go.Proofs.YbulkblxcFmt
