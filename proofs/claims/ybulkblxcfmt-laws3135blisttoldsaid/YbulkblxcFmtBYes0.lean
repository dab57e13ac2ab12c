import Derived.Test.YbulkblxcFmtBLoop
namespace Go.Proofs.YbulkblxcFmt
open Go.RowKit Go.Extern.Stop Go.Stop Go.Extern
set_option linter.unusedVariables false

theorem below_alloc4 (X : World) (a b c d : Obj) : Below X.heap.size X ((((X.alloc a).alloc b).alloc c).alloc d) :=
  ((((Below.refl _ _).alloc (Nat.le_refl _) _).alloc (by simp) _).alloc (by simp; omega) _).alloc (by simp; omega) _

set_option maxHeartbeats 1000000 in
set_option maxRecDepth 100000 in
/-- No slices at all. -/
theorem sl_yes0 (B0 bf R C D o cap fs es so wd : Nat) (fld : (Nat → Int) → Nat → Int) (bs : Nat → Int) (w : World) (P : MoW B0 bf w) (H : RbAt R C D o fs cap bs false w) (FF : FileOf es so wd fld fs bs []) (he : Nat) (hes : es ≤ 32) :
    Calls Ybaf.prog 12 #[.pointer (some ⟨R, 0, none⟩)] w fun e w' => ListedB fs he [] w e w' := by
  have hb0 := slW_bel w
  have hr := slW_ret w
  have hl := slW_list w
  have hm := slW_mem w
  have hlt := hr.lt
  have hlt' := hl.lt
  have hfit := FF.fit
  have hsc := sc_any B0 bf R C D o fs cap bs (slW w) (P.below (hb0.mono P.hB)) (H.below hb0) (by simp at hfit; omega)
  go_enter Ybaf.func12, Ybaf.ntmps12
  go_wp2_with fail
  refine hsc.mono ?_
  intro e w1 hpost
  rw [ScPost, FF.ok] at hpost
  obtain ⟨rfl, hb1⟩ := hpost
  rw [FF.count, FF.fEs, FF.fOf, FF.fSz, FF.fWd, show (([] : List En).length : Int) = 0 from rfl]
  have hr1 := hr.below hb1 hlt
  have hl1 := hl.below hb1 hlt'
  have hm1 := hm.below hb1 hm.lt
  have hbw := hb0.trans (hb1.mono hb0.size)
  have hlt1 := hr1.lt
  have hlt1' := hl1.lt
  have H2 := H.below (hbw.trans (((Below.refl _ _).alloc (Nat.le_refl _) (.cells #[.int .u64 (es : Int), .int .i64 8, .int .i64 (so : Int), .int .i64 (wd : Int)] 72) : Below w1.heap.size _ _).mono hbw.size))
  have hby := bbytes_zero R C D o fs cap 8 bs false _ H2 (by simp at hfit; omega)
  have c0 := hr1.c 0
  have c1 := hr1.c 1
  have hfr := hr1.free
  have d0 := hl1.c 0
  have d1 := hl1.c 1
  have n0 : w.heap.size + 1 + 1 + 1 < w1.heap.size + 1 := by omega
  have n1 : w.heap.size + 1 + 1 + 1 < w1.heap.size + 1 + 1 := by omega
  have n2 : w.heap.size + 1 + 1 + 1 < w1.heap.size + 1 + 1 + 1 := by omega
  have m0 : w.heap.size < w1.heap.size + 1 := by omega
  have m1 : w.heap.size < w1.heap.size + 1 + 1 := by omega
  have m2 : w.heap.size < w1.heap.size + 1 + 1 + 1 := by omega
  clear hsc hr hb1 hb0 H H2 hl hm
  go_wp2_with fail
  refine hby.mono ?_
  rintro e w2 ⟨rfl, hw2⟩
  subst hw2
  go_wp2_with (go_at_call 20; refine (table_end 0 (es : Int) _ _ _ _ (by omega) (by omega)).mono ?_; rintro e w' ⟨rfl, rfl⟩)
  refine wp_loop_rounds 1 ?_
  rw [rounds_succ]
  go_wp2
  (try simp only [Exit.inBlock, Exit.then])
  have hz0 := hr1.put (.slice (some ⟨w.heap.size + 1, 0, none⟩) 0 0) (.slice (some ⟨w.heap.size + 1 + 1, 0, none⟩) 0 0)
  have hm2 : OwnAt ((w1.setCell ⟨w.heap.size, 0, none⟩ (.slice (some ⟨w.heap.size + 1, 0, none⟩) 0 0)).setCell ⟨w.heap.size, 1, none⟩ (.slice (some ⟨w.heap.size + 1 + 1, 0, none⟩) 0 0)) 38 3 (w.heap.size + 1) 0 0 [] :=
    hm1.of_block ((Below.heap_setCell _ _ _ _ (show w.heap.size + 1 ≠ w.heap.size by omega)).trans (Below.heap_setCell _ _ _ _ (show w.heap.size + 1 ≠ w.heap.size by omega)))
  have hbz := (hbw.setCell (p := ⟨w.heap.size, 0, none⟩) (Nat.le_refl _) (.slice (some ⟨w.heap.size + 1, 0, none⟩) 0 0)).setCell (p := ⟨w.heap.size, 1, none⟩) (Nat.le_refl _) (.slice (some ⟨w.heap.size + 1 + 1, 0, none⟩) 0 0)
  have hb4 := below_alloc4 ((w1.setCell ⟨w.heap.size, 0, none⟩ (.slice (some ⟨w.heap.size + 1, 0, none⟩) 0 0)).setCell ⟨w.heap.size, 1, none⟩ (.slice (some ⟨w.heap.size + 1 + 1, 0, none⟩) 0 0)) (.cells #[.int .u64 (es : Int), .int .i64 8, .int .i64 (so : Int), .int .i64 (wd : Int)] 72) (.cells #[.int .u64 (es : Int), .int .i64 8, .int .i64 (so : Int), .int .i64 (wd : Int)] 72) (.cells #[.string ⟨#[]⟩, .int .u64 0, .int .u64 8] 38) (.cells #[] 24)
  have hz : PairAt _ w.heap.size _ _ := hz0.below hb4 hz0.lt
  refine bodyPost_ret (results12 _ _ w.heap.size _ _ _ rfl rfl (hz.c 0) (hz.c 1)) rfl ?_
  exact ⟨w.heap.size + 1, 0, w.heap.size + 1 + 1, 0, rfl, hbz.trans (hb4.mono hbz.size), hm2.below hb4 hm2.lt⟩

end Go.Proofs.YbulkblxcFmt
