import Derived.Test.YbulkblxcFmtCModel
import Derived.Test.YbulkblxcFmtLaid
import Derived.Stop.LaidTwo
namespace Go.Proofs.YbulkblxcFmt
open Go.ChangeShapes Go.WideShapes Go.ChangeAt Go.RowKit
set_option linter.unusedVariables false

theorem Ybaf.starEq : "*errors.errorString" = "*" ++ "errors.errorString" := by decide
theorem Ybaf.row151 (u : TypeId) (h : Ybaf.prog.typeName? 3 u = some "*errors.errorString") : u = 151 :=
  typeName_ptr_named (nm := "errors.errorString") (by rw [← Ybaf.starEq]; kernel_rfl) (by kernel_rfl) (by decide) u (by rw [← Ybaf.starEq]; exact h)
theorem Ybaf.cells153 : Ybaf.prog.cellsOf 153 = 1 := by kernel_rfl

theorem eof_of_laid {W : World} (h : laidMetH Ybaf.prog Rows.lawS3135CImageRow.laid W) : ∃ e0, EofAt W e0 ∧ e0.block < W.heap.size := by
  have h' : laidMet Ybaf.prog Rows.lawS3135CImageRow.laid.tail W ∧ handlesMet Ybaf.prog [Rows.lawS3135CImageRow.laid.head (by simp [Rows.lawS3135CImageRow])] W := h
  obtain ⟨a0, a1, s0, s1, c0, c1, t0, t1, hv0, hv1, hc0, hs0, hz0, hc1, hs1, hz1, hne, hb0, hb1⟩ := laid_sentinels2 (P := Ybaf.prog) (W := W) h'.1 (g0 := 7) (g1 := 8) (ti := 48) (tp := 151) (te := 153) (ts := 9) (by kernel_rfl) (by kernel_rfl) (by kernel_rfl) (by kernel_rfl)
    Ybaf.underlying48 Ybaf.row151 Ybaf.underlying151 Ybaf.underlying153 rfl rfl Ybaf.underlying9 Ybaf.cells153 Ybaf.cells9
  refine ⟨a0, ⟨?_, c0, t0, hb0⟩, (Array.getElem?_eq_some_iff.1 hb0).1⟩
  have := World.var?_cell (g := 7) (by kernel_rfl) hv0 0
  simpa using this
end Go.Proofs.YbulkblxcFmt
