import Derived.Test.YbulkblxcFmtBSlices
import Derived.Test.YbulkblxcFmtBShare
namespace Go.Proofs.YbulkblxcFmt
open Go.RowKit
set_option linter.unusedVariables false

theorem own_ne {w : World} {e e' size size' g g' n n' cap cap' : Nat} {xs xs' : List Value} (h : OwnAt w e size g n cap xs) (h' : OwnAt w e' size' g' n' cap' xs') (he : e ≠ e') : g ≠ g' := by
  intro e0
  subst e0
  obtain ⟨c, h1, _⟩ := h.row
  obtain ⟨c', h1', _⟩ := h'.row
  rw [h1] at h1'
  simp at h1'
  exact he h1'.2

/-- The state of Slices at the head of a round. -/
structure SlI (w : World) (es so wd he L Fm T N Hd : Nat) (tb : Nat → Int) (gm cm gp cp gl cl : Nat) (st : List Mb × Nat) (ps ls : List Value) (wr : World) : Prop where
  bel : Below w.heap.size w wr
  ret : PairAt wr w.heap.size (.slice none 0 0) (.slice none 0 0)
  pair : PairAt wr L (.slice (some ⟨gm, 0, none⟩) st.1.length cm) (.slice (some ⟨gp, 0, none⟩) st.2 cp)
  form : FormAt wr Fm (.int .u64 (es : Int)) (.int .i64 8) (.int .i64 (so : Int)) (.int .i64 (wd : Int))
  tab : Bytes wr T 0 N tb
  head : MemAt wr Hd ⟨#[]⟩ 0 he
  mem : OwnAt wr 38 3 gm st.1.length cm (msCells st.1)
  prob : OwnAt wr 9 1 gp st.2 cp ps
  lst : OwnAt wr 24 1 gl st.1.length cl ls
  lsI : ∀ v ∈ ls, ∃ x : Int, v = .int .u64 x
  o0 : w.heap.size < gm ∧ w.heap.size < gp ∧ w.heap.size < L
  o1 : L < Fm ∧ Fm < T ∧ T < Hd ∧ Hd < gl
  om : gm < L ∨ Hd < gm
  op : gp < L ∨ Hd < gp

section
variable {w : World} {es so wd he L Fm T N Hd : Nat} {tb : Nat → Int} {gm cm gp cp gl cl : Nat} {st : List Mb × Nat} {ps ls : List Value} {wr : World}

theorem SlI.hd (h : SlI w es so wd he L Fm T N Hd tb gm cm gp cp gl cl st ps ls wr) : Hd < wr.heap.size := h.head.lt
theorem SlI.mp (h : SlI w es so wd he L Fm T N Hd tb gm cm gp cp gl cl st ps ls wr) : gm ≠ gp := own_ne h.mem h.prob (by decide)
theorem SlI.ml (h : SlI w es so wd he L Fm T N Hd tb gm cm gp cp gl cl st ps ls wr) : gm ≠ gl := own_ne h.mem h.lst (by decide)
theorem SlI.pl (h : SlI w es so wd he L Fm T N Hd tb gm cm gp cp gl cl st ps ls wr) : gp ≠ gl := own_ne h.prob h.lst (by decide)

theorem SlI.grow (h : SlI w es so wd he L Fm T N Hd tb gm cm gp cp gl cl st ps ls wr) {wx : World} (hb : Below wr.heap.size wr wx) : SlI w es so wd he L Fm T N Hd tb gm cm gp cp gl cl st ps ls wx :=
  ⟨h.bel.trans (hb.mono h.bel.size), h.ret.below hb h.ret.lt, h.pair.below hb h.pair.lt, h.form.below hb h.form.lt, h.tab.below hb (by have := h.hd; have := h.o1; omega), h.head.below hb h.head.lt,
    h.mem.below hb h.mem.lt, h.prob.below hb h.prob.lt, h.lst.below hb h.lst.lt, h.lsI, h.o0, h.o1, h.om, h.op⟩

/-- A problem more. -/
theorem SlI.prob1 (h : SlI w es so wd he L Fm T N Hd tb gm cm gp cp gl cl st ps ls wr) {wA : World} {g' cp' : Nat} {s : ByteArray} (ho : OwnAt wA 9 1 g' (st.2 + 1) cp' (ps ++ [.string s])) (hg : wr.grownBy wA (some gp)) (hg' : g' = gp ∨ wr.heap.size ≤ g') :
    SlI w es so wd he L Fm T N Hd tb gm cm g' cp' gl cl (st.1, st.2 + 1) (ps ++ [.string s]) ls (wA.setCell ⟨L, 1, none⟩ (.slice (some ⟨g', 0, none⟩) (st.2 + 1) cp')) := by
  have hHd := h.hd
  have ⟨o01, o02, o03⟩ := h.o0
  have ⟨o11, o12, o13, o14⟩ := h.o1
  have om := h.om
  have op := h.op
  have hmp := h.mp
  have hpl := h.pl
  have hmlt := h.mem.lt
  have hllt := h.lst.lt
  have blk : ∀ X, X < wr.heap.size → X ≠ gp → X ≠ L → (wA.setCell ⟨L, 1, none⟩ (.slice (some ⟨g', 0, none⟩) (st.2 + 1) cp')).heap[X]? = wr.heap[X]? := fun X h1 h2 h3 => by
    rw [Below.heap_setCell _ _ _ _ h3]
    exact hg.block X h1 (by simpa using h2)
  have hLA : wA.heap[L]? = wr.heap[L]? := hg.block L (by omega) (by simp; omega)
  have hgL : g' ≠ L := by rcases hg' with h1 | h1 <;> omega
  have hgX : ∀ (wy : World), wy.heap[g']? = wA.heap[g']? → OwnAt wy 9 1 g' (st.2 + 1) cp' (ps ++ [.string s]) := fun wy hy => ho.of_block hy
  refine ⟨?_, ?_, ?_, ?_, ?_, ?_, ?_, ?_, ?_, h.lsI, ⟨o01, by rcases hg' with h1 | h1 <;> omega, o03⟩, h.o1, om, by rcases hg' with h1 | h1 <;> omega⟩
  · refine h.bel.trans ⟨hg.os, hg.tape, hg.output, ?_, fun k hk => blk k (by omega) (by omega) (by omega)⟩
    have := hg.size
    simp [World.setCell]
    exact this
  · exact (blk _ (by omega) (by omega) (by omega)).trans h.ret
  · exact PairAt.put1 (w := wA) (hLA.trans h.pair) _
  · exact (blk _ (by omega) (by omega) (by omega)).trans h.form
  · exact h.tab.of_block (blk _ (by omega) (by omega) (by omega))
  · exact (blk _ (by omega) (by omega) (by omega)).trans h.head
  · exact h.mem.of_block (blk _ hmlt hmp (by omega))
  · exact hgX _ (Below.heap_setCell _ _ _ _ hgL)
  · exact h.lst.of_block (blk _ hllt (Ne.symm hpl) (by omega))

/-- A slice listed. -/
theorem SlI.list1 (h : SlI w es so wd he L Fm T N Hd tb gm cm gp cp gl cl st ps ls wr) {wA wB wC : World} {g' cm' g2 cl' : Nat} {m : Mb} {x : Int}
    (ho : OwnAt wA 38 3 g' (st.1.length + 1) cm' (msCells st.1 ++ mbCells m)) (hg : wr.grownBy wA (some gm)) (hg' : g' = gm ∨ wr.heap.size ≤ g')
    (hB : Below wA.heap.size (wA.setCell ⟨L, 0, none⟩ (.slice (some ⟨g', 0, none⟩) (st.1.length + 1) cm')) wB)
    (ho2 : OwnAt wC 24 1 g2 (st.1.length + 1) cl' (ls ++ [.int .u64 x])) (hg2 : wB.grownBy wC (some gl)) (hg2' : g2 = gl ∨ wB.heap.size ≤ g2) :
    SlI w es so wd he L Fm T N Hd tb g' cm' gp cp g2 cl' (st.1 ++ [m], st.2) ps (ls ++ [.int .u64 x]) wC := by
  have hHd := h.hd
  have ⟨o01, o02, o03⟩ := h.o0
  have ⟨o11, o12, o13, o14⟩ := h.o1
  have om := h.om
  have op := h.op
  have hmp := h.mp
  have hml := h.ml
  have hpl := h.pl
  have hmlt := h.mem.lt
  have hllt := h.lst.lt
  have hplt := h.prob.lt
  have hsA := hg.size
  have hsB : wA.heap.size ≤ wB.heap.size := by have := hB.size; simpa [World.setCell] using this
  have hg'lt : g' < wA.heap.size := ho.lt
  have blkA : ∀ X, X < wr.heap.size → X ≠ gm → X ≠ L → (wA.setCell ⟨L, 0, none⟩ (.slice (some ⟨g', 0, none⟩) (st.1.length + 1) cm')).heap[X]? = wr.heap[X]? := fun X h1 h2 h3 => by
    rw [Below.heap_setCell _ _ _ _ h3]
    exact hg.block X h1 (by simpa using h2)
  have hLA : wA.heap[L]? = wr.heap[L]? := hg.block L (by omega) (by simp; omega)
  have hgL : g' ≠ L := by rcases hg' with h1 | h1 <;> omega
  have hg'gl : g' ≠ gl := by rcases hg' with h1 | h1 <;> omega
  have hB2 : ∀ X, X < wA.heap.size → X ≠ gl → wC.heap[X]? = (wA.setCell ⟨L, 0, none⟩ (.slice (some ⟨g', 0, none⟩) (st.1.length + 1) cm')).heap[X]? := fun X h1 h2 => by
    rw [hg2.block X (by omega) (by simpa using h2)]
    exact hB.block X h1
  have blk : ∀ X, X < wr.heap.size → X ≠ gm → X ≠ gl → X ≠ L → wC.heap[X]? = wr.heap[X]? := fun X h1 h2 h3 h4 => (hB2 X (by omega) h3).trans (blkA X h1 h2 h4)
  refine ⟨?_, ?_, ?_, ?_, ?_, ?_, ?_, ?_, ?_, ?_, ⟨by rcases hg' with h1 | h1 <;> omega, o02, o03⟩, ⟨o11, o12, o13, by rcases hg2' with h1 | h1 <;> omega⟩, by rcases hg' with h1 | h1 <;> omega, op⟩
  · refine h.bel.trans ⟨?_, ?_, ?_, by have := hg2.size; omega, fun k hk => blk k (by omega) (by omega) (by omega) (by omega)⟩
    · exact hg2.os.trans (hB.os.trans hg.os)
    · exact hg2.tape.trans (hB.tape.trans hg.tape)
    · exact hg2.output.trans (hB.output.trans hg.output)
  · exact (blk _ (by omega) (by omega) (by omega) (by omega)).trans h.ret
  · have h1 : PairAt (wA.setCell ⟨L, 0, none⟩ (.slice (some ⟨g', 0, none⟩) (st.1.length + 1) cm')) L _ _ := PairAt.put0 (w := wA) (hLA.trans h.pair) _
    have h2 := (hB2 L (by omega) (by omega)).trans h1
    rw [show (st.1 ++ [m], st.2).1.length = st.1.length + 1 from by simp]
    exact h2
  · exact (blk _ (by omega) (by omega) (by omega) (by omega)).trans h.form
  · exact h.tab.of_block (blk _ (by omega) (by omega) (by omega) (by omega))
  · exact (blk _ (by omega) (by omega) (by omega) (by omega)).trans h.head
  · rw [show (st.1 ++ [m], st.2).1.length = st.1.length + 1 from by simp, msCells_append]
    exact ho.of_block ((hB2 g' hg'lt hg'gl).trans (Below.heap_setCell _ _ _ _ hgL))
  · exact h.prob.of_block (blk _ hplt (Ne.symm hmp) hpl (by omega))
  · rw [show (st.1 ++ [m], st.2).1.length = st.1.length + 1 from by simp]
    exact ho2
  · intro v hv
    rcases List.mem_append.1 hv with h1 | h1
    · exact h.lsI v h1
    · exact ⟨x, List.mem_singleton.1 h1⟩
end

end Go.Proofs.YbulkblxcFmt
