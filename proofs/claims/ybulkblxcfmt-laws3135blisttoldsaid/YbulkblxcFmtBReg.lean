import Derived.Test.YbulkblxcFmtBInv
namespace Go.Proofs.YbulkblxcFmt
open Go.RowKit
set_option linter.unusedVariables false

/-- The region of that number in a statement. -/
def findRegion (id : Nat) : Code → Option Code
  | .region i ops d => if i == id then some (.region i ops d) else none
  | .seq a b => match findRegion id a with
    | some c => some c
    | none => findRegion id b
  | .loop c => findRegion id c
  | .block _ c => findRegion id c
  | .scope c => findRegion id c
  | .cond _ a b => match findRegion id a with
    | some c => some c
    | none => findRegion id b
  | _ => none
noncomputable def regionOf (f : Func) (id : Nat) : Code := (f.body.bind (findRegion id)).getD .skip

/-- It ends as a statement ends, so. -/
def onlyNormal (R : Act → World → Prop) : Exit → Act → World → Prop
  | .normal, a, w => R a w
  | _, _, _ => False

theorem wp_only {c : Code} {R : Act → World → Prop} {Q : Exit → Act → World → Prop} {a : Act} {w : World} (h : c.wp Ybaf.prog (onlyNormal R) a w) (hq : ∀ a w, R a w → Q .normal a w) : c.wp Ybaf.prog Q a w :=
  Code.wp_mono (fun e a w h => by cases e <;> first | exact hq a w h | exact h.elim) h

/-- A Member in a block of its own, its numbers whatever they are. -/
def MemIs (w : World) (B : Nat) (s : ByteArray) (a n : Int) : Prop := w.heap[B]? = some (.cells #[.string s, .int .u64 a, .int .u64 n] 38 (0, 0))
theorem MemIs.c {w : World} {B : Nat} {s : ByteArray} {a n : Int} (h : MemIs w B s a n) (j : Nat) : w.cell? ⟨B, j, none⟩ = (#[.string s, .int .u64 a, .int .u64 n] : Array Value)[j]? := cell_of_row _ _ _ _ _ _ h
theorem MemIs.free {w : World} {B : Nat} {s : ByteArray} {a n : Int} (h : MemIs w B s a n) (j : Nat) : w.frozen? ⟨B, j, none⟩ = false := by
  have h' : w.heap[B]? = _ := h
  simp [World.frozen?, h']
theorem MemIs.lt {w : World} {B : Nat} {s : ByteArray} {a n : Int} (h : MemIs w B s a n) : B < w.heap.size := (Array.getElem?_eq_some_iff.1 h).1
theorem MemIs.of_block {w w' : World} {B : Nat} {s : ByteArray} {a n : Int} (h : MemIs w B s a n) (hb : w'.heap[B]? = w.heap[B]?) : MemIs w' B s a n := hb.trans h
theorem MemIs.below {B0 : Nat} {w w' : World} {B : Nat} {s : ByteArray} {a n : Int} (h : MemIs w B s a n) (hb : Below B0 w w') (hB : B < B0) : MemIs w' B s a n := (hb.block B hB).trans h
theorem MemIs.put3 {w : World} {B : Nat} {s : ByteArray} {a n : Int} (h : MemIs w B s a n) (s' : ByteArray) (a' n' : Int) :
    MemIs (((w.setCell ⟨B, 0, none⟩ (.string s')).setCell ⟨B, 1, none⟩ (.int .u64 a')).setCell ⟨B, 2, none⟩ (.int .u64 n')) B s' a' n' := by
  unfold MemIs
  rw [heap_setCell_same _ _ _ _ _ _ (heap_setCell_same _ _ _ _ _ _ (heap_setCell_same _ _ _ _ _ _ h))]
  rfl
theorem MemIs.put2 {w : World} {B : Nat} {s : ByteArray} {a n : Int} (h : MemIs w B s a n) (n' : Int) : MemIs (w.setCell ⟨B, 2, none⟩ (.int .u64 n')) B s a n' := by
  unfold MemIs
  rw [heap_setCell_same _ _ _ _ _ _ h]
  rfl
theorem zmemI {W w' : World} {B : Nat} (h : MemIs W B ⟨#[]⟩ 0 0) (hb : Below W.heap.size W w') : MemIs w' B ⟨#[]⟩ 0 0 := h.below hb h.lt

theorem Ybaf.info9 : (Ybaf.prog.info? 9).map (fun i => (i.zero, i.size, i.bytes)) = some (some (.string ⟨#[]⟩), 1, 16) := by kernel_rfl
theorem Ybaf.info24 : (Ybaf.prog.info? 24).map (fun i => (i.zero, i.size, i.bytes)) = some (some (.int .u64 0), 1, 8) := by kernel_rfl
theorem Ybaf.info38 : (Ybaf.prog.info? 38).map (fun i => (i.zero, i.size, i.bytes)) = some (some (.agg #[.string ⟨#[]⟩, .int .u64 0, .int .u64 0]), 3, 32) := by kernel_rfl

/-- One problem more in the list: appended, and the list's field stored. -/
def ProbPut (wc : World) (L gp np : Nat) (ps : List Value) (w' : World) : Prop :=
  ∃ (g' cp' : Nat) (s : ByteArray) (wx wA : World), w' = wA.setCell ⟨L, 1, none⟩ (.slice (some ⟨g', 0, none⟩) (np + 1) cp') ∧ OwnAt wA 9 1 g' (np + 1) cp' (ps ++ [.string s]) ∧
    Below wc.heap.size wc wx ∧ wx.grownBy wA (some gp) ∧ (g' = gp ∨ wx.heap.size ≤ g')

end Go.Proofs.YbulkblxcFmt
