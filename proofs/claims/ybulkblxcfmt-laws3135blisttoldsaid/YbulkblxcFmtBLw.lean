import Derived.Test.YbulkblxcFmtBFile
import Derived.Test.YbulkblxcFmtBReg3
namespace Go.Proofs.YbulkblxcFmt
open Go.RowKit
set_option linter.unusedVariables false

abbrev cpuCells : Array Value := #[.int .u32 7, .int .u32 12, .int .u32 18, .int .u32 16777223, .int .u32 16777228, .int .u32 16777234, .int .u32 99]
abbrev namCells : Array Value := #[.string ⟨#[105, 51, 56, 54]⟩, .string ⟨#[97, 114, 109]⟩, .string ⟨#[112, 112, 99]⟩, .string ⟨#[120, 56, 54, 45, 54, 52]⟩, .string ⟨#[97, 97, 114, 99, 104, 54, 52]⟩, .string ⟨#[112, 112, 99, 54, 52]⟩, .string ⟨#[117, 110, 107, 110, 111, 119, 110]⟩]
theorem cpuCells_at (k : Nat) (hk : k < 7) : cpuCells[k]? = some (.int .u32 (cpuK k)) := by
  rcases (by omega : k = 0 ∨ k = 1 ∨ k = 2 ∨ k = 3 ∨ k = 4 ∨ k = 5 ∨ k = 6) with rfl | rfl | rfl | rfl | rfl | rfl | rfl <;> rfl
theorem namCells_at (k : Nat) (hk : k < 7) : namCells[k]? = some (.string (nameK k)) := by
  rcases (by omega : k = 0 ∨ k = 1 ∨ k = 2 ∨ k = 3 ∨ k = 4 ∨ k = 5 ∨ k = 6) with rfl | rfl | rfl | rfl | rfl | rfl | rfl <;> rfl

/-- The law's state at the head of a round. -/
structure LwI (w : World) (B T Cb Nb gw cw : Nat) (ms : List Mb) (bs : Nat → Int) (wr : World) : Prop where
  bel : Below w.heap.size w wr
  row : RowB wr B T bs
  cpus : wr.heap[Cb]? = some (.cells cpuCells 30 (0, 0))
  nams : wr.heap[Nb]? = some (.cells namCells 31 (0, 0))
  want : OwnAt wr 38 3 gw ms.length cw (msCells ms)
  o : w.heap.size ≤ B ∧ B < Cb ∧ Cb < Nb ∧ Nb < gw

section
variable {w : World} {B T Cb Nb gw cw : Nat} {ms : List Mb} {bs : Nat → Int} {wr : World}
theorem LwI.clt (h : LwI w B T Cb Nb gw cw ms bs wr) : Cb < wr.heap.size := (Array.getElem?_eq_some_iff.1 h.cpus).1
theorem LwI.nlt (h : LwI w B T Cb Nb gw cw ms bs wr) : Nb < wr.heap.size := (Array.getElem?_eq_some_iff.1 h.nams).1
theorem LwI.cpu (h : LwI w B T Cb Nb gw cw ms bs wr) (k : Nat) (hk : k < 7) : wr.cell? ⟨Cb, k, none⟩ = some (.int .u32 (cpuK k)) := by
  rw [cell_of_row _ _ _ _ _ _ h.cpus]; exact cpuCells_at k hk
theorem LwI.nam (h : LwI w B T Cb Nb gw cw ms bs wr) (k : Nat) (hk : k < 7) : wr.cell? ⟨Nb, k, none⟩ = some (.string (nameK k)) := by
  rw [cell_of_row _ _ _ _ _ _ h.nams]; exact namCells_at k hk
theorem LwI.grow (h : LwI w B T Cb Nb gw cw ms bs wr) {wx : World} (hb : Below wr.heap.size wr wx) : LwI w B T Cb Nb gw cw ms bs wx :=
  ⟨h.bel.trans (hb.mono h.bel.size), h.row.below hb h.row.lt, (hb.block _ h.clt).trans h.cpus, (hb.block _ h.nlt).trans h.nams, h.want.below hb h.want.lt, h.o⟩
theorem LwI.put (h : LwI w B T Cb Nb gw cw ms bs wr) {wx : World} {bs' : Nat → Int} (hr : RowB wx B T bs') (hk : KeepsC B wr wx) : LwI w B T Cb Nb gw cw ms bs' wx := by
  have ho := h.o
  exact ⟨h.bel.trans (hk.below ho.1 h.bel.size), hr, (hk.block _ h.clt (by omega)).trans h.cpus, (hk.block _ h.nlt (by omega)).trans h.nams, h.want.of_block (hk.block _ h.want.lt (by omega)), ho⟩
theorem LwI.app (h : LwI w B T Cb Nb gw cw ms bs wr) {wA : World} {g' cw' : Nat} {m : Mb} (ho : OwnAt wA 38 3 g' (ms.length + 1) cw' (msCells ms ++ mbCells m)) (hg : wr.grownBy wA (some gw)) (hg' : g' = gw ∨ wr.heap.size ≤ g') :
    LwI w B T Cb Nb g' cw' (ms ++ [m]) bs wA := by
  have h1 := h.o
  have hc := h.clt
  have hn := h.nlt
  have hB := h.row.lt
  have hs := h.bel.size
  refine ⟨h.bel.trans ⟨hg.os, hg.tape, hg.output, hg.size, fun k hk => hg.block k (by omega) (by simp; omega)⟩, h.row.of_block (hg.block _ hB (by simp; omega)), (hg.block _ hc (by simp; omega)).trans h.cpus, (hg.block _ hn (by simp; omega)).trans h.nams, ?_, by rcases hg' with h2 | h2 <;> omega⟩
  rw [show (ms ++ [m]).length = ms.length + 1 from by simp, msCells_append]
  exact ho
end

end Go.Proofs.YbulkblxcFmt
