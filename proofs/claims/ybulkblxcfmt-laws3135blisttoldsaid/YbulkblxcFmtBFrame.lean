import Derived.Test.YbulkblxcFmtEof
import Derived.Test.YbulkblxcFmtFrame
import Derived.Test.YbulkblxcFmtBForm
namespace Go.Proofs.YbulkblxcFmt
open Go.ChangeShapes Go.WideShapes Go.ChangeAt Go.WideElems Go.RowKit
set_option linter.unusedVariables false

theorem eof_of_laidB {W : World} (h : laidMetH Ybaf.prog Rows.lawS3135BRefuseRow.laid W) : ∃ e0, EofAt W e0 ∧ e0.block < W.heap.size := by
  have h' : laidMet Ybaf.prog Rows.lawS3135BRefuseRow.laid.tail W ∧ handlesMet Ybaf.prog [Rows.lawS3135BRefuseRow.laid.head (by simp [Rows.lawS3135BRefuseRow])] W := h
  obtain ⟨a0, a1, s0, s1, c0, c1, t0, t1, hv0, hv1, hc0, hs0, hz0, hc1, hs1, hz1, hne, hb0, hb1⟩ := laid_sentinels2 (P := Ybaf.prog) (W := W) h'.1 (g0 := 7) (g1 := 8) (ti := 48) (tp := 151) (te := 153) (ts := 9) (by kernel_rfl) (by kernel_rfl) (by kernel_rfl) (by kernel_rfl)
    Ybaf.underlying48 Ybaf.row151 Ybaf.underlying151 Ybaf.underlying153 rfl rfl Ybaf.underlying9 Ybaf.cells153 Ybaf.cells9
  refine ⟨a0, ⟨?_, c0, t0, hb0⟩, (Array.getElem?_eq_some_iff.1 hb0).1⟩
  have := World.var?_cell (g := 7) (by kernel_rfl) hv0 0
  simpa using this

theorem vars_macho {H : Type} {enc : TypeId × Value → H} {W W' : World} {gs : List (DataW H)} {q : List MemPlace} (hs : 9 ≤ W.heap.size) (h : DataW.TrodVars enc Ybaf.prog W (fun _ => true) Rows.lawS3135BRefuseSpec.vars gs q) (hb : Below W.heap.size W W') (hlt : ∀ x ∈ q, x.block < W.heap.size) :
    ∃ g1 g2, gs = [g1, g2] ∧ DataW.TrodVars enc Ybaf.prog W' (fun b => decide (b < W.heap.size)) Rows.lawS3135BRefuseSpec.vars [g1, g2] q := by
  match gs, h with
  | [d1, d2], ⟨g1, t1, c1, f1, p1, q1, hg1, ht1, hv1, hd1, ⟨g2, t2, c2, f2, p2, q2, hg2, ht2, hv2, hd2, hr2, hq1⟩, hq⟩ =>
    obtain rfl := Option.some.inj ((show _ = some 4 from by kernel_rfl).symm.trans hg1)
    obtain rfl := Option.some.inj ((show _ = some 5 from by kernel_rfl).symm.trans hg2)
    obtain rfl := Option.some.inj ((show _ = some 103 from by kernel_rfl).symm.trans ht1)
    obtain rfl := Option.some.inj ((show _ = some 111 from by kernel_rfl).symm.trans ht2)
    subst hq hq1
    obtain ⟨a1, b1⟩ := var_below Ybaf.laidOut (by kernel_rfl) (of_decide_eq_true (by kernel_rfl)) hg1 (by omega) hv1 hd1 hb (fun x hx => hlt x (by simp [hx]))
    obtain ⟨a2, b2⟩ := var_below Ybaf.laidOut (by kernel_rfl) (of_decide_eq_true (by kernel_rfl)) hg2 (by omega) hv2 hd2 hb (fun x hx => hlt x (by simp [hx]))
    exact ⟨d1, d2, rfl, 4, 103, c1, f1, p1, _, hg1, ht1, a1, b1, ⟨5, _, c2, f2, p2, q2, hg2, ht2, a2, b2, hr2, rfl⟩, rfl⟩

end Go.Proofs.YbulkblxcFmt
