import Derived.Test.YbulkblxcRows
import Derived.WalkKit
import Derived.WalkSpells
import Derived.WalkLawsBesides
import Derived.Deep.QuietTactic
import Derived.BigQuiet
namespace Go.Proofs.Ybulkblxc
open Go.RowKit
set_option linter.unusedVariables false

theorem Yba.info3 : (Yba.prog.info? 3).map (fun i => (i.zero, i.size, i.bytes)) = some (some (.int .i64 0), 1, 8) := by kernel_rfl

/-- The logging order at block B: its log, its two planned answers at block g, its count. -/
structure LogAt (B b0 g : Nat) (a1 a2 : Int) (k : Nat) (xs : List Value) (lg : Value) (w : World) : Prop where
  hB : B < b0
  hb0 : b0 ≤ w.heap.size
  hg : g < b0
  hgB : g ≠ B
  h0 : w.cell? ⟨B, 0, none⟩ = some lg
  h1 : w.cell? ⟨B, 1, none⟩ = some (.slice (some ⟨g, 0, none⟩) 2 2)
  h2 : w.cell? ⟨B, 2, none⟩ = some (.int .i64 k)
  f0 : w.frozen? ⟨B, 0, none⟩ = false
  f2 : w.frozen? ⟨B, 2, none⟩ = false
  ans0 : w.cell? ⟨g, 0, none⟩ = some (.int .u32 a1)
  ans1 : w.cell? ⟨g, 1, none⟩ = some (.int .u32 a2)
  own : w.ownsRow b0 3 1 lg k xs

/-- Below b0 nothing but block B has turned. -/
structure KeptBut (B b0 : Nat) (w w' : World) : Prop where
  os : w'.os = w.os
  tape : w'.tape = w.tape
  output : w'.output = w.output
  size : w.heap.size ≤ w'.heap.size
  block : ∀ k, k < b0 → k ≠ B → w'.heap[k]? = w.heap[k]?

theorem ord_step {B b0 g : Nat} {a1 a2 : Int} {k : Nat} {xs : List Value} {lg : Value} {w w1 : World} (H : LogAt B b0 g a1 a2 k xs lg w) (hb : Below b0 w w1) {lb lc nq : Nat} {x : Value}
    (hown : w1.ownsRow b0 3 1 (.slice (some ⟨lb, 0, none⟩) (k + 1) lc) (k + 1) (xs ++ [x])) :
    LogAt B b0 g a1 a2 (k + 1) (xs ++ [x]) (.slice (some ⟨lb, 0, none⟩) (k + 1) lc) (((w1.setCell ⟨B, 0, none⟩ (.slice (some ⟨lb, 0, none⟩) (k + 1) lc)).drewN nq).setCell ⟨B, 2, none⟩ (.int .i64 ((k + 1 : Nat) : Int))) ∧
    KeptBut B b0 w (((w1.setCell ⟨B, 0, none⟩ (.slice (some ⟨lb, 0, none⟩) (k + 1) lc)).drewN nq).setCell ⟨B, 2, none⟩ (.int .i64 ((k + 1 : Nat) : Int))) := by
  have k0 := (hb.cell (p := ⟨B, 0, none⟩) H.hB).trans H.h0
  have k1 := (hb.cell (p := ⟨B, 1, none⟩) H.hB).trans H.h1
  have k2 := (hb.cell (p := ⟨B, 2, none⟩) H.hB).trans H.h2
  have e0 := (hb.frozen (p := ⟨B, 0, none⟩) H.hB).trans H.f0
  have e2 := (hb.frozen (p := ⟨B, 2, none⟩) H.hB).trans H.f2
  have a0 := (hb.cell (p := ⟨g, 0, none⟩) H.hg).trans H.ans0
  have a1 := (hb.cell (p := ⟨g, 1, none⟩) H.hg).trans H.ans1
  have hB := H.hB
  have hgB := H.hgB
  have hsz := hb.size
  have hb0 := H.hb0
  constructor
  · refine ⟨hB, ?_, H.hg, hgB, ?_, ?_, ?_, ?_, ?_, ?_, ?_, ?_⟩
    · simp; omega
    · go_simp
    · go_simp
    · go_simp
    · go_simp
    · go_simp
    · go_simp
    · go_simp
    · exact ownsRow_setCell_below (show ((w1.setCell ⟨B, 0, none⟩ (.slice (some ⟨lb, 0, none⟩) (k + 1) lc)).drewN nq).ownsRow b0 3 1 _ (k + 1) (xs ++ [x]) from ownsRow_setCell_below hown (a := ⟨B, 0, none⟩) hB (.slice (some ⟨lb, 0, none⟩) (k + 1) lc)) hB _
  · refine ⟨hb.os, hb.tape, hb.output, ?_, ?_⟩
    · simp; omega
    · intro j hj hne
      rw [Below.heap_setCell _ _ _ _ hne]
      exact (Below.heap_setCell w1 _ _ _ hne).trans (hb.block j hj)

/-- What one question to the logging order leaves. -/
def LogPost (B b0 g : Nat) (a1 a2 : Int) (k : Nat) (xs : List Value) (w w' : World) : Prop :=
  ∃ lb lc, LogAt B b0 g a1 a2 k xs (.slice (some ⟨lb, 0, none⟩) k lc) w' ∧ KeptBut B b0 w w'

set_option maxHeartbeats 400000 in
theorem ord_any (B b0 g : Nat) (lg : Value) (k : Nat) (hk : k = 0 ∨ k = 1) (xs : List Value) (a1 a2 : Int) (ba : Option Addr) (bl bc : Nat) (w : World) (H : LogAt B b0 g a1 a2 k xs lg w) :
    Calls Yba.prog 34 #[.pointer (some ⟨B, 0, none⟩), .slice ba bl bc] w fun e w' => e = .returned (.int .u32 (if k = 0 then a1 else a2)) ∧
      LogPost B b0 g a1 a2 (k + 1) (xs ++ [.int .i64 bl]) w w' := by
  obtain ⟨i0, hi, hz0, hz1, hz2⟩ := info_parts Yba.info3
  have hB := H.hB
  have hg := H.hg
  have hgB := H.hgB
  have hb0 := H.hb0
  have h0 := H.h0
  have h1 := H.h1
  have h2 := H.h2
  have f0 := H.f0
  have f2 := H.f2
  have hown := H.own
  have ans0 := H.ans0
  have ans1 := H.ans1
  rcases hk with hk | hk <;> subst hk
  all_goals
    go_enter Yba.func34, Yba.ntmps34
    go_wp2_with (at_builtin; refine wpList_append_own _ rfl (.tmp 10) (.tmp 13) 39 rfl b0 3 i0 (.int .i64 0) 1 8 Yba.underlying39 hi hz0 hz1 hz2 rfl (by decide) _ _ _ rfl (hown.alloc _) ⟨w.heap.size, 0, none⟩ 1 1 [.int .i64 bl] rfl rfl (cell_one_new _ _ _) (by intro u hu; simp at hu; subst hu; rfl) (by unfold maxLen; omega) (by omega) (by simp; omega) ?_)
    intro v' w1 hown' hgrow _
    have hlt := hown.lt
    have hbel : Below b0 w w1 := ((Below.refl _ _).alloc hb0 _).grown hgrow (by simp; omega) (fun k h => (hlt k h).1)
    obtain ⟨lb, lc, hv⟩ : ∃ lb lc, v' = .slice (some ⟨lb, 0, none⟩) (_ + 1) lc := by
      rcases hown'.2 with ⟨_, h⟩ | ⟨g, cap', _, h, _⟩
      · omega
      · exact ⟨g, cap', h⟩
    subst hv
    have k0 := (hbel.cell (p := ⟨B, 0, none⟩) hB).trans h0
    have k1 := (hbel.cell (p := ⟨B, 1, none⟩) hB).trans h1
    have k2 := (hbel.cell (p := ⟨B, 2, none⟩) hB).trans h2
    have e0 := (hbel.frozen (p := ⟨B, 0, none⟩) hB).trans f0
    have e2 := (hbel.frozen (p := ⟨B, 2, none⟩) hB).trans f2
    have ka := (hbel.cell (p := ⟨g, 0, none⟩) hg).trans ans0
    have kb := (hbel.cell (p := ⟨g, 1, none⟩) hg).trans ans1
    clear h0 h1 h2 f0 f2 ans0 ans1 hi hz0 hz1 hz2
    go_wp2
    go_quiet (fail)
    go_wp2
    go_quiet (fail)
    go_wp2
    go_ret
    exact ⟨rfl, lb, lc, ord_step H hbel hown'⟩

end Go.Proofs.Ybulkblxc
