import Derived.Test.YbulkblxcFmtBCount
namespace Go.Proofs.YbulkblxcFmt
open Go.RowKit Go.Extern.Stop Go.Stop Go.Extern
set_option linter.unusedVariables false

theorem loadVar46 (w : World) (B : Nat) (v0 v1 : Value) (h0 : w.cell? ⟨B, 0, none⟩ = some v0) (h1 : w.cell? ⟨B, 1, none⟩ = some v1) :
    (loadVar 46 ⟨B, 0, none⟩).run Ybaf.prog w = .ok (.agg #[v0, v1]) w :=
  loadVar_agg 46 2 w B [v0, v1] rfl (by kernel_rfl) (by unfold isAgg; rw [Sem.run_bind, run_underlying Ybaf.underlying46 w]; rfl) (fun j v hv => by
    match j, hv with
    | 0, hv => simp at hv; subst hv; exact h0
    | 1, hv => simp at hv; subst hv; exact h1)

theorem results12 (tmps : Array Value) (w : World) (B : Nat) (v0 v1 a : Value) (hp : tmps.getD 2 undef = .pointer (some ⟨B, 0, none⟩)) (ha : tmps.getD 3 undef = a)
    (h0 : w.cell? ⟨B, 0, none⟩ = some v0) (h1 : w.cell? ⟨B, 1, none⟩ = some v1) :
    (results Ybaf.f12 tmps).run Ybaf.prog w = .ok (.tuple #[.agg #[v0, v1], a]) w := by
  have ha' : tmps[3]?.getD undef = a := by simpa using ha
  have hp' : tmps[2]?.getD undef = .pointer (some ⟨B, 0, none⟩) := by simpa using hp
  simp [results, ha', hp', asAddr, loadVar46 w B v0 v1 h0 h1]

/-- The two cells of a MemberList. -/
def PairAt (w : World) (Q : Nat) (v0 v1 : Value) : Prop := w.heap[Q]? = some (.cells #[v0, v1] 46 (0, 0))
theorem PairAt.c {w : World} {Q : Nat} {v0 v1 : Value} (h : PairAt w Q v0 v1) (j : Nat) : w.cell? ⟨Q, j, none⟩ = (#[v0, v1] : Array Value)[j]? := cell_of_row _ _ _ _ _ _ h
theorem PairAt.free {w : World} {Q : Nat} {v0 v1 : Value} (h : PairAt w Q v0 v1) (j : Nat) : w.frozen? ⟨Q, j, none⟩ = false := by
  have h' : w.heap[Q]? = _ := h
  simp [World.frozen?, h']
theorem PairAt.below {B : Nat} {w w' : World} {Q : Nat} {v0 v1 : Value} (h : PairAt w Q v0 v1) (hb : Below B w w') (hQ : Q < B) : PairAt w' Q v0 v1 := (hb.block Q hQ).trans h
theorem PairAt.lt {w : World} {Q : Nat} {v0 v1 : Value} (h : PairAt w Q v0 v1) : Q < w.heap.size := (Array.getElem?_eq_some_iff.1 h).1
theorem PairAt.put {w : World} {Q : Nat} {v0 v1 : Value} (h : PairAt w Q v0 v1) (u0 u1 : Value) :
    PairAt ((w.setCell ⟨Q, 0, none⟩ u0).setCell ⟨Q, 1, none⟩ u1) Q u0 u1 := by
  unfold PairAt
  rw [heap_setCell_same _ _ _ _ _ _ (heap_setCell_same _ _ _ _ _ _ h)]
  rfl
theorem PairAt.put1 {w : World} {Q : Nat} {v0 v1 : Value} (h : PairAt w Q v0 v1) (u1 : Value) : PairAt (w.setCell ⟨Q, 1, none⟩ u1) Q v0 u1 := by
  unfold PairAt
  rw [heap_setCell_same _ _ _ _ _ _ h]
  rfl
theorem PairAt.put0 {w : World} {Q : Nat} {v0 v1 : Value} (h : PairAt w Q v0 v1) (u0 : Value) : PairAt (w.setCell ⟨Q, 0, none⟩ u0) Q u0 v1 := by
  unfold PairAt
  rw [heap_setCell_same _ _ _ _ _ _ h]
  rfl

/-- The world when Slices calls sliceCount. -/
abbrev slW (w : World) : World := (((w.alloc (.cells #[.slice none 0 0, .slice none 0 0] 46)).alloc (.cells #[] 38)).alloc (.cells #[] 9)).alloc (.cells #[.slice (some ⟨w.heap.size + 1, 0, none⟩) 0 0, .slice (some ⟨w.heap.size + 1 + 1, 0, none⟩) 0 0] 46)
theorem slW_bel (w : World) : Below w.heap.size w (slW w) := ((((Below.refl _ _).alloc (Nat.le_refl _) _).alloc (by simp) _).alloc (by simp; omega) _).alloc (by simp; omega) _
theorem slW_size (w : World) : (slW w).heap.size = w.heap.size + 4 := by simp
theorem slW_ret (w : World) : PairAt (slW w) w.heap.size (.slice none 0 0) (.slice none 0 0) := by
  have h0 : PairAt (w.alloc (.cells #[.slice none 0 0, .slice none 0 0] 46)) w.heap.size _ _ := heap_alloc_new w _
  exact h0.below ((((Below.refl _ _).alloc (by simp) _).alloc (by simp) _).alloc (by simp) _ : Below (w.heap.size + 1) _ _) (by omega)
theorem slW_list (w : World) : PairAt (slW w) (w.heap.size + 1 + 1 + 1) (.slice (some ⟨w.heap.size + 1, 0, none⟩) 0 0) (.slice (some ⟨w.heap.size + 1 + 1, 0, none⟩) 0 0) := by
  have := heap_alloc_new (((w.alloc (.cells #[.slice none 0 0, .slice none 0 0] 46)).alloc (.cells #[] 38)).alloc (.cells #[] 9)) (.cells #[.slice (some ⟨w.heap.size + 1, 0, none⟩) 0 0, .slice (some ⟨w.heap.size + 1 + 1, 0, none⟩) 0 0] 46)
  simpa [PairAt] using this

set_option maxHeartbeats 1000000 in
set_option maxRecDepth 100000 in
theorem sl_fail (F : Interp) (e0 : Addr) (B0 bf R C D o n cap : Nat) (bs : Nat → Int) (w : World) (P : MoW B0 bf w) (hF : F.answers w.tape) (hE : EofAt w e0) (he : e0.block < w.heap.size) (H : RbAt R C D o n cap bs true w) (hn : 0 < n) :
    Calls Ybaf.prog 12 #[.pointer (some ⟨R, 0, none⟩)] w fun e w' => ∃ p : Nat, e = .returned (.tuple #[.agg #[.slice none 0 0, .slice none 0 0], .iface 150 (.pointer (some ⟨p, 0, none⟩))]) ∧ Below w.heap.size w w' := by
  have hb0 := slW_bel w
  have h7 : 7 < w.heap.size := World.block_lt_of_cell? w _ hE.var
  have hsc := sc_fail F e0 B0 bf R C D o n cap bs (slW w) (P.below (hb0.mono P.hB)) hF (hE.below hb0 h7 he) (Nat.lt_of_lt_of_le he hb0.size) (H.below hb0) hn
  have hr := slW_ret w
  have hlt := hr.lt
  clear H P hE hF
  go_enter Ybaf.func12, Ybaf.ntmps12
  go_wp2_with fail
  refine hsc.mono ?_
  rintro e w1 ⟨p, rfl, hb1⟩
  have hr1 := hr.below hb1 hlt
  have hbw := hb0.trans (hb1.mono hb0.size)
  have c0 := hr1.c 0
  have c1 := hr1.c 1
  have hfr := hr1.free
  have hlt1 := hr1.lt
  clear hsc hr hb1 hb0
  go_wp2
  (try simp only [Exit.inBlock, Exit.then])
  have hz : PairAt _ w.heap.size _ _ := (hr1.put (.slice none 0 0) (.slice none 0 0)).below ((Below.refl _ _).alloc (Nat.le_refl _) zForm) (by simpa using hlt1)
  refine bodyPost_ret (results12 _ _ w.heap.size _ _ _ rfl rfl (hz.c 0) (hz.c 1)) rfl ?_
  refine ⟨p, rfl, ?_⟩
  exact ((hbw.setCell (p := ⟨w.heap.size, 0, none⟩) (Nat.le_refl _) _).setCell (p := ⟨w.heap.size, 1, none⟩) (Nat.le_refl _) _).alloc (by simp; omega) _

set_option maxHeartbeats 1000000 in
set_option maxRecDepth 100000 in
theorem sl_short (R C D o n cap : Nat) (bs : Nat → Int) (fl : Bool) (w : World) (H : RbAt R C D o n cap bs fl w) (hn : n < 8)
    (hsc : Calls Ybaf.prog 18 #[.pointer (some ⟨R, 0, none⟩)] (slW w) fun e w' => ScNone (slW w) e w') :
    Calls Ybaf.prog 12 #[.pointer (some ⟨R, 0, none⟩)] w fun e w' => ∃ p : Nat, e = .returned (.tuple #[.agg #[.slice none 0 0, .slice none 0 0], .iface 99 (.pointer (some ⟨p, 0, none⟩))]) ∧ Below w.heap.size w w' := by
  have hb0 := slW_bel w
  have hr := slW_ret w
  have hlt := hr.lt
  go_enter Ybaf.func12, Ybaf.ntmps12
  go_wp2_with fail
  refine hsc.mono ?_
  rintro e w1 ⟨rfl, hb1⟩
  have hr1 := hr.below hb1 hlt
  have hbw := hb0.trans (hb1.mono hb0.size)
  have hlt1 := hr1.lt
  have H2 := H.below (hbw.trans (((Below.refl _ _).alloc (Nat.le_refl _) zForm : Below w1.heap.size _ _).mono hbw.size))
  have hby := bbytes_none R C D o n cap 8 0 bs fl (w1.alloc zForm) H2 (by omega) (by omega)
  clear hsc hr hb1 hb0 H H2
  go_wp2_with fail
  refine hby.mono ?_
  rintro e w2 ⟨rfl, hw2⟩
  have hb2 : Below w1.heap.size w1 w2 := by rw [hw2]; exact ((Below.refl _ _).alloc (Nat.le_refl _) _).alloc (by simp) _
  have hr2 := hr1.below hb2 hlt1
  have hbw2 := hbw.trans (hb2.mono hbw.size)
  have c0 := hr2.c 0
  have c1 := hr2.c 1
  have hfr := hr2.free
  have hlt2 := hr2.lt
  clear hby hw2 hb2 hr1 hbw hlt1
  go_wp2
  (try simp only [Exit.inBlock, Exit.then])
  have hz : PairAt _ w.heap.size _ _ := hr2.put (.slice none 0 0) (.slice none 0 0)
  refine bodyPost_ret (results12 _ _ w.heap.size _ _ _ rfl rfl (hz.c 0) (hz.c 1)) rfl ?_
  refine ⟨_, rfl, ?_⟩
  exact (hbw2.setCell (p := ⟨w.heap.size, 0, none⟩) (Nat.le_refl _) _).setCell (p := ⟨w.heap.size, 1, none⟩) (Nat.le_refl _) _

set_option maxHeartbeats 1000000 in
set_option maxRecDepth 100000 in
theorem sl_none (R C D o n cap : Nat) (bs : Nat → Int) (fl : Bool) (w : World) (H : RbAt R C D o n cap bs fl w) (hn : 8 ≤ n)
    (hsc : Calls Ybaf.prog 18 #[.pointer (some ⟨R, 0, none⟩)] (slW w) fun e w' => ScNone (slW w) e w') :
    Calls Ybaf.prog 12 #[.pointer (some ⟨R, 0, none⟩)] w fun e w' => e = .returned (.tuple #[.agg #[.slice (some ⟨w.heap.size + 1, 0, none⟩) 0 0, .slice (some ⟨w.heap.size + 1 + 1, 0, none⟩) 0 0], .nilIface]) ∧ Below w.heap.size w w' := by
  have hb0 := slW_bel w
  have hr := slW_ret w
  have hl := slW_list w
  have hlt := hr.lt
  have hlt' := hl.lt
  go_enter Ybaf.func12, Ybaf.ntmps12
  go_wp2_with fail
  refine hsc.mono ?_
  rintro e w1 ⟨rfl, hb1⟩
  have hr1 := hr.below hb1 hlt
  have hl1 := hl.below hb1 hlt'
  have hbw := hb0.trans (hb1.mono hb0.size)
  have hlt1 := hr1.lt
  have hlt1' := hl1.lt
  have H2 := H.below (hbw.trans (((Below.refl _ _).alloc (Nat.le_refl _) zForm : Below w1.heap.size _ _).mono hbw.size))
  have hby := bbytes_zero R C D o n cap 8 bs fl (w1.alloc zForm) H2 (by omega)
  have c0 := hr1.c 0
  have c1 := hr1.c 1
  have hfr := hr1.free
  have d0 := hl1.c 0
  have d1 := hl1.c 1
  have n0 : w.heap.size + 1 + 1 + 1 < w1.heap.size + 1 := by omega
  have n1 : w.heap.size + 1 + 1 + 1 < w1.heap.size + 1 + 1 := by omega
  have n2 : w.heap.size + 1 + 1 + 1 < w1.heap.size + 1 + 1 + 1 := by omega
  have m0 : w.heap.size < w1.heap.size + 1 := by omega
  have m1 : w.heap.size < w1.heap.size + 1 + 1 := by omega
  have m2 : w.heap.size < w1.heap.size + 1 + 1 + 1 := by omega
  clear hsc hr hb1 hb0 H H2 hl
  go_wp2_with fail
  refine hby.mono ?_
  rintro e w2 ⟨rfl, hw2⟩
  subst hw2
  go_wp2_with (go_at_call 20; refine (table_end 0 0 _ _ _ _ (by omega) (by omega)).mono ?_; rintro e w' ⟨rfl, rfl⟩)
  refine wp_loop_rounds 1 ?_
  rw [rounds_succ]
  go_wp2
  (try simp only [Exit.inBlock, Exit.then])
  have hz : PairAt _ w.heap.size _ _ := (hr1.put (.slice (some ⟨w.heap.size + 1, 0, none⟩) 0 0) (.slice (some ⟨w.heap.size + 1 + 1, 0, none⟩) 0 0)).below (((((Below.refl _ _).alloc (Nat.le_refl _) zForm).alloc (by simp) zForm).alloc (by simp; try omega) (.cells #[.string ⟨#[]⟩, .int .u64 0, .int .u64 8] 38)).alloc (by simp; try omega) (.cells #[] 24)) (by simpa using hlt1)
  refine bodyPost_ret (results12 _ _ w.heap.size _ _ _ rfl rfl (hz.c 0) (hz.c 1)) rfl ?_
  refine ⟨rfl, ?_⟩
  exact (((((hbw.setCell (p := ⟨w.heap.size, 0, none⟩) (Nat.le_refl _) _).setCell (p := ⟨w.heap.size, 1, none⟩) (Nat.le_refl _) _).alloc (by simp; omega) _).alloc (by simp; omega) _).alloc (by simp; omega) _).alloc (by simp; omega) _
end Go.Proofs.YbulkblxcFmt
