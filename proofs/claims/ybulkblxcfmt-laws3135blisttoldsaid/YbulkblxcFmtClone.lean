import Derived.Test.YbulkblxcFmtZero
import Derived.Test.YbulkblxcFmtObj
import Derived.Laws.CopyOwn
import Derived.BigQuiet
namespace Go.Proofs.YbulkblxcFmt
open Go.RowKit
set_option linter.unusedVariables false

/-- 'c := make([]T, n); copy(c, src)', src of n elements, nil or not: c holds them; nothing that was there has turned. -/
theorem copy_fresh {P : Program} (t e ty : TypeId) (hu : P.underlying t = some (.slice e)) (hsz : (P.info? e).map (·.size) = some 1) (w : World) (n cap : Nat) (sp : Option Addr) (cs : List Value) (hlen : cs.length = n)
    (hsrc : 0 < n → ∃ ad, sp = some ad ∧ ∀ j v, cs[j]? = some v → w.cell? (ad.add j) = some v) (hone : ∀ v ∈ cs, v.oneCell' = true) (z : Value) :
    ∃ w2, (Builtin.copy_ #[t, t] ty #[.slice (some ⟨w.heap.size, 0, none⟩) n n, .slice sp n cap]).run P (w.alloc (.cells (madeCells #[z] n) e)) = .ok (goInt n) w2 ∧
      w2.heap[w.heap.size]? = some (.cells cs.toArray e (0, 0)) ∧ Below w.heap.size w w2 ∧ w2.heap.size = w.heap.size + 1 := by
  have hnew : (w.alloc (.cells (madeCells #[z] n) e)).heap[w.heap.size]? = some (.cells (madeCells #[z] n) e (0, 0)) := heap_alloc_new w _
  by_cases h0 : n = 0
  · subst h0
    obtain rfl : cs = [] := List.eq_nil_of_length_eq_zero hlen
    refine ⟨_, run_copy_none (P := P) _ t t ty e _ sp 0 0 0 cap hu hsz rfl, ?_, (Below.refl _ _).alloc (Nat.le_refl _) _, by simp⟩
    rw [hnew]
    simp [madeCells]
  · obtain ⟨ad, rfl, hc⟩ := hsrc (by omega)
    have hrun := run_copy_row (P := P) (w.alloc (.cells (madeCells #[z] n) e)) t t ty e w.heap.size 0 n n ad n cap (madeCells #[z] n) e cs hu hsz hnew (by simp [hlen])
      (fun j v hv => (World.cell?_alloc_lt w _ _ (World.block_lt_of_cell? w _ (hc j v hv))).trans (hc j v hv)) (by rw [size_madeCells]; omega) hone
    rw [hlen] at hrun
    have hrow : (madeCells #[z] n).toList.take 0 ++ cs ++ (madeCells #[z] n).toList.drop (0 + n) = cs := by
      rw [List.drop_eq_nil_of_le (by simp [size_madeCells])]; simp
    rw [hrow] at hrun
    refine ⟨_, hrun, setRow_heap _ _ _ _ _ _ hnew, below_setRow ((Below.refl _ _).alloc (Nat.le_refl _) _) (Nat.le_refl _) _, by simp [World.setRow]⟩


def ClonedB (n : Nat) (bs : Nat → Int) (w : World) (e : Ending) (w' : World) : Prop :=
  e = .returned (.slice (some ⟨w.heap.size, 0, none⟩) n n) ∧ Below w.heap.size w w' ∧ Bytes w' w.heap.size 0 n bs ∧ w'.heap.size = w.heap.size + 1

set_option maxHeartbeats 400000 in
/-- zzs3135cclone. -/
theorem clone_bytes (a : Option Addr) (n cap : Nat) (bs : Nat → Int) (w : World) (hn : n ≤ 4096) (h : 0 < n → ∃ g o, a = some ⟨g, o, none⟩ ∧ Bytes w g o n bs) :
    Calls Ybaf.prog 14 #[.slice a n cap] w fun e w' => ClonedB n bs w e w' := by
  have hmk := make_bytes .i64 n (by omega)
  obtain ⟨w2, hcp, hrow, hb, hs⟩ := copy_fresh (P := Ybaf.prog) 26 5 3 Ybaf.underlying26 size5 w n cap a (byteCells bs n) (byteCells_length bs n)
    (fun h0 => by
      obtain ⟨g, o, ha, hB⟩ := h h0
      refine ⟨_, ha, fun j v hv => ?_⟩
      have hj : j < n := by have := (List.getElem?_eq_some_iff.1 hv).1; simpa [byteCells_length] using this
      rw [byteCells_get bs n j hj] at hv
      cases hv
      rw [add_mk]
      exact hB.at j hj)
    (byteCells_one bs n) (.int .u8 0)
  have HS : Hid (w2.heap.size = w.heap.size + 1) := hs
  have HB : Hid (Bytes w2 w.heap.size 0 n bs) := by
    intro j hj
    obtain ⟨g, o, ha, hB⟩ := h (by omega)
    refine ⟨?_, hB.bd j hj⟩
    rw [cell_of_row _ _ _ _ _ _ hrow]
    simp [byteCells, hj]
  clear hs hrow h
  go_enter Ybaf.func14, Ybaf.ntmps14
  go_wp2
  go_ret
  exact ⟨rfl, hb, HB.out, HS.out⟩

end Go.Proofs.YbulkblxcFmt
