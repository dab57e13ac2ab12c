import Derived.Test.YbulkblxcFmtRows
import Derived.ProofKit
import Derived.OpenShut
import Derived.ShutString
import Derived.ChangeOld
import Derived.Below
import Derived.WalkSmall
import Derived.Stop.JoinedTold
namespace Go.Proofs.YbulkblxcFmt
open Go.ChangeShapes Go.WideShapes Go.ChangeAt Go.WideElems Go.RowKit
set_option linter.unusedVariables false

theorem Ybaf.laidOut : laidOutB Ybaf.prog = true := by kernel_rfl

/-- A named variable reads behind the call as before it, where nothing that was there has turned. -/
theorem var_below {H : Type} {enc : TypeId × Value → H} {P : Program} {W W' : World} {n : String} {g : Nat} {t : TypeId} {cs : Array Value} {fuel : Nat} {d : DataW H} {p : List MemPlace} (hl : laidOutB P = true) (hr : P.readableRec t = true) (hrow : t < P.types.size)
    (hg : P.globalNamed n = some g) (hgs : g < W.heap.size) (hv : W.var? P n = some cs) (h : DataW.trod enc P W 0 (fun _ => true) true fuel t cs.toList = some (d, p)) (hb : Below W.heap.size W W') (hlt : ∀ x ∈ p, x.block < W.heap.size) :
    W'.var? P n = some cs ∧ DataW.trod enc P W' 0 (fun b => decide (b < W.heap.size)) true fuel t cs.toList = some (d, p) :=
  ⟨var?_below hb hg hgs hv, DataW.trod_stays (kids_book hl hr) (book_sized hr) (fun h => by cases h) ⟨hrow, book_self t⟩ h (fun x hx => hb.same (hlt x hx)) (fun x hx => by simpa using hlt x hx)⟩

theorem vars_pe {H : Type} {enc : TypeId × Value → H} {W W' : World} {gs : List (DataW H)} {q : List MemPlace} (hs : 9 ≤ W.heap.size) (h : DataW.TrodVars enc Ybaf.prog W (fun _ => true) Rows.lawS3135CImageSpec.vars gs q) (hb : Below W.heap.size W W') (hlt : ∀ x ∈ q, x.block < W.heap.size) :
    ∃ g1 g2, gs = [g1, g2] ∧ DataW.TrodVars enc Ybaf.prog W' (fun b => decide (b < W.heap.size)) Rows.lawS3135CImageSpec.vars [g1, g2] q := by
  match gs, h with
  | [d1, d2], ⟨g1, t1, c1, f1, p1, q1, hg1, ht1, hv1, hd1, ⟨g2, t2, c2, f2, p2, q2, hg2, ht2, hv2, hd2, hr2, hq1⟩, hq⟩ =>
    obtain rfl := Option.some.inj ((show _ = some 1 from by kernel_rfl).symm.trans hg1)
    obtain rfl := Option.some.inj ((show _ = some 2 from by kernel_rfl).symm.trans hg2)
    obtain rfl := Option.some.inj ((show _ = some 26 from by kernel_rfl).symm.trans ht1)
    obtain rfl := Option.some.inj ((show _ = some 96 from by kernel_rfl).symm.trans ht2)
    subst hq hq1
    obtain ⟨a1, b1⟩ := var_below Ybaf.laidOut (by kernel_rfl) (of_decide_eq_true (by kernel_rfl)) hg1 (by omega) hv1 hd1 hb (fun x hx => hlt x (by simp [hx]))
    obtain ⟨a2, b2⟩ := var_below Ybaf.laidOut (by kernel_rfl) (of_decide_eq_true (by kernel_rfl)) hg2 (by omega) hv2 hd2 hb (fun x hx => hlt x (by simp [hx]))
    exact ⟨d1, d2, rfl, 1, 26, c1, f1, p1, _, hg1, ht1, a1, b1, ⟨2, 96, c2, f2, p2, q2, hg2, ht2, a2, b2, hr2, rfl⟩, rfl⟩

end Go.Proofs.YbulkblxcFmt
