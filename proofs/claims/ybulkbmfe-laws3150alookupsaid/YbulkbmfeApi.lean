import Derived.Test.YbulkbmfeKey
namespace Go.Proofs.Ybulkbmfe
open Go.RowKit Go.WideMaps Go.Maps Go.Conc.Locks
set_option linter.unusedVariables false

theorem rl (S : Nat) (x0 x3 : Value) (w : World) (c0 : w.cell? ⟨S, 0, none⟩ = some x0) (c3 : w.cell? ⟨S, 3, none⟩ = some x3) (c4 : w.cell? ⟨S, 4, none⟩ = some (.int .i32 0)) (z4 : w.frozen? ⟨S, 4, none⟩ = false) :
    Calls Yba.prog 6 #[.pointer (some ⟨S, 0, none⟩)] w fun e w' => e = .returned (.tuple #[]) ∧ w' = w.setCell ⟨S, 4, none⟩ (.int .i32 1) := by
  have e1 : wrap32 (0 + 1) = 1 := by kernel_rfl
  have h := Go.RwLone.rlock_open Yba.rwRLib S 0 0 x0 x3 w c0 c3 c4 z4 (by rw [e1]; decide)
  rw [e1] at h
  exact h

theorem ru (S : Nat) (x0 x2 : Value) (u : FrameMode) (w : World) (c0 : w.cell? ⟨S, 0, none⟩ = some x0) (c2 : w.cell? ⟨S, 2, none⟩ = some x2) (c4 : w.cell? ⟨S, 4, none⟩ = some (.int .i32 1)) (z4 : w.frozen? ⟨S, 4, none⟩ = false) :
    CallsD Yba.prog 7 #[.pointer (some ⟨S, 0, none⟩)] u w fun e u' w' => u' = u ∧ (e = .returned (.tuple #[]) ∧ w' = w.setCell ⟨S, 4, none⟩ (.int .i32 0)) := by
  have e1 : wrap32 (1 + -1) = 0 := by kernel_rfl
  have h := Go.RwLone.runlock_deferred Yba.rwRLib S 0 1 x0 x2 u w c0 c2 c4 z4 (by rw [e1]; decide)
  rw [e1] at h
  exact h

/-- What the walk reads of the store. -/
structure StoreAt (W : World) (S K n : Nat) (D : DataW Unit) : Prop where
  lt : S < W.heap.size
  c0 : W.cell? ⟨S, 0, none⟩ = some (.int .i32 0)
  c2 : W.cell? ⟨S, 2, none⟩ = some (.int .u32 0)
  c3 : W.cell? ⟨S, 3, none⟩ = some (.int .u32 0)
  c4 : W.cell? ⟨S, 4, none⟩ = some (.int .i32 0)
  z4 : W.frozen? ⟨S, 4, none⟩ = false
  c11 : W.cell? ⟨S, 11, none⟩ = some (.slice (some ⟨K, 0, none⟩) n n)
  c18 : W.cell? ⟨S, 18, none⟩ = some (.map (some (K + 1)))
  bs : K + 2 ≤ S
  own : W.ownsMap Yba.prog 9 (plainElem Yba.prog 3) (K + 1) n D

def Missed (W : World) (S K n : Nat) (e : Ending) (w' : World) : Prop :=
  e = .returned (.tuple #[.agg zKey, .bool false]) ∧ Below S W w' ∧ w'.cell? ⟨S, 11, none⟩ = some (.slice (some ⟨K, 0, none⟩) n n)

theorem lookup_fact {W : World} {B n : Nat} {D : DataW Unit} (hown : W.ownsMap Yba.prog 9 (plainElem Yba.prog 3) B n D) {q : ByteArray} {kl : Lit} (hkey : keyOf Yba.prog 9 (.string q) = some kl) (b : Bool) (hb : Maps.has D kl = b) (c : Int) (hat : D.atKey kl (.lit (.int .i64 0)) = .lit (.int .i64 c)) :
    (Instr.lookup 52 (.map (some B)) (.string q) true).run Yba.prog W = .ok (.tuple #[.int .i64 c, .bool b]) W := by
  obtain ⟨v, ps, hrun, hv⟩ := hown.look_ok law9 Yba.underlying52 (zero3 W) (plainElem_int Yba.underlying3 (by decide)) hkey
  obtain ⟨c', rfl, hc, _⟩ := plainElem_int_inv Yba.underlying3 hv
  have e1 := congrArg Prod.fst hc
  rw [hat] at e1
  simp at e1
  rw [hrun, hb, e1]


abbrev zK : Obj := .cells #[.string { data := #[] }, .string { data := #[] }, .slice none 0 0] 28

theorem past {W : World} {o : Obj} {b i : Nat} {v : Value} (h : b < W.heap.size) (hc : W.cell? ⟨b, i, none⟩ = some v) : (W.alloc o).cell? ⟨b, i, none⟩ = some v := by
  rw [World.cell?_alloc_past]
  · exact hc
  · exact h

theorem other {W : World} {S k b i : Nat} {v u : Value} (h : ¬ (b = S ∧ i = k)) (hc : W.cell? ⟨b, i, none⟩ = some v) : (W.setCell ⟨S, k, none⟩ u).cell? ⟨b, i, none⟩ = some v := by
  rw [World.cell?_setCell_other _ _ _ _ (by intro e; simp at e; omega)]
  exact hc

theorem size28 : (Yba.prog.info? 28).map (·.size) = some 3 := by kernel_rfl

theorem loadVar28 (w : World) (B : Nat) (v0 v1 v2 : Value) (h0 : w.cell? ⟨B, 0, none⟩ = some v0) (h1 : w.cell? ⟨B, 1, none⟩ = some v1) (h2 : w.cell? ⟨B, 2, none⟩ = some v2) :
    (loadVar 28 ⟨B, 0, none⟩).run Yba.prog w = .ok (.agg #[v0, v1, v2]) w := by
  have hl : (loadCells ⟨B, 0, none⟩ 3).run Yba.prog w = .ok #[v0, v1, v2] w :=
    run_loadCells_list (P := Yba.prog) w ⟨B, 0, none⟩ [v0, v1, v2] (fun j v hv => by
      have hadd : (⟨B, 0, none⟩ : Addr).add j = ⟨B, j, none⟩ := by unfold Addr.add; split <;> simp_all
      rw [hadd]
      match j, hv with
      | 0, hv => simp at hv; subst hv; exact h0
      | 1, hv => simp at hv; subst hv; exact h1
      | 2, hv => simp at hv; subst hv; exact h2)
  have hagg : (isAgg 28).run Yba.prog w = .ok true w := by
    unfold isAgg
    rw [Sem.run_bind, run_underlying Yba.underlying28 w]
    rfl
  cases hq : Yba.prog.info? 28 with
  | none => have := size28; simp [hq] at this
  | some i =>
    have hs : i.size = 3 := by have := size28; simpa [hq] using this
    simp [loadVar, Sem.run_bind, hagg, sizeOf, typeInfo, hq, hs, hl]

theorem results5 (tmps : Array Value) (w : World) (B : Nat) (v0 v1 v2 b : Value) (hp : tmps.getD 4 undef = .pointer (some ⟨B, 0, none⟩)) (hq : tmps.getD 5 undef = b)
    (h0 : w.cell? ⟨B, 0, none⟩ = some v0) (h1 : w.cell? ⟨B, 1, none⟩ = some v1) (h2 : w.cell? ⟨B, 2, none⟩ = some v2) :
    (results Yba.f5 tmps).run Yba.prog w = .ok (.tuple #[.agg #[v0, v1, v2], b]) w := by
  have hp' : tmps[4]?.getD undef = .pointer (some ⟨B, 0, none⟩) := by simpa using hp
  have hq' : tmps[5]?.getD undef = b := by simpa using hq
  simp [results, hp', hq', asAddr, loadVar28 w B v0 v1 v2 h0 h1 h2]

/-- The world behind the lock. -/
theorem locked {W : World} {S K n : Nat} {D : DataW Unit} (h : StoreAt W S K n D) :
    (Calls Yba.prog 6 #[.pointer (some ⟨S, 0, none⟩)] (W.alloc zK) fun e w' => e = .returned (.tuple #[]) ∧ w' = (W.alloc zK).setCell ⟨S, 4, none⟩ (.int .i32 1)) :=
  rl S _ _ _ (past h.lt h.c0) (past h.lt h.c3) (past h.lt h.c4) (by rw [World.frozen?_alloc_past _ _ _ h.lt]; exact h.z4)

set_option maxRecDepth 100000 in
theorem key_miss (S K n : Nat) (D : DataW Unit) (q : ByteArray) (kl : Lit) (W : World) (h : StoreAt W S K n D) (hkey : keyOf Yba.prog 9 (.string q) = some kl) (hhas : Maps.has D kl = false) :
    Calls Yba.prog 5 #[.pointer (some ⟨S, 0, none⟩), .string q] W fun e w' => Missed W S K n e w' := by
  have hlock := locked h
  obtain ⟨lt, c0, c2, c3, c4, z4, c11, c18, bs, own⟩ := h
  obtain ⟨W1, hW1⟩ : ∃ W1, (W.alloc zK).setCell ⟨S, 4, none⟩ (.int .i32 1) = W1 := ⟨_, rfl⟩
  have hlk := lookup_fact ((own.alloc zK).setCell (a := ⟨S, 4, none⟩) (by simp; omega) (.int .i32 1)) hkey false hhas 0 (atKey_of_not_has hhas _)
  have d18 : W1.cell? ⟨S, 18, none⟩ = some (.map (some (K + 1))) := by rw [← hW1]; exact other (by omega) (past lt c18)
  have e0 : W1.cell? ⟨W.heap.size, 0, none⟩ = some (.string { data := #[] }) := by rw [← hW1]; exact other (by omega) (by rw [World.cell?_alloc_new]; rfl)
  have e1 : W1.cell? ⟨W.heap.size, 1, none⟩ = some (.string { data := #[] }) := by rw [← hW1]; exact other (by omega) (by rw [World.cell?_alloc_new]; rfl)
  have e2 : W1.cell? ⟨W.heap.size, 2, none⟩ = some (.slice none 0 0) := by rw [← hW1]; exact other (by omega) (by rw [World.cell?_alloc_new]; rfl)
  have g0 : ∀ i, W1.frozen? ⟨W.heap.size, i, none⟩ = false := by intro i; rw [← hW1, World.frozen?_setCell, World.frozen?_alloc_new]
  have f4 : W1.frozen? ⟨S, 4, none⟩ = false := by rw [← hW1, World.frozen?_setCell, World.frozen?_alloc_past _ _ _ lt]; exact z4
  have d0 : W1.cell? ⟨S, 0, none⟩ = some (.int .i32 0) := by rw [← hW1]; exact other (by omega) (past lt c0)
  have d2 : W1.cell? ⟨S, 2, none⟩ = some (.int .u32 0) := by rw [← hW1]; exact other (by omega) (past lt c2)
  have d4 : W1.cell? ⟨S, 4, none⟩ = some (.int .i32 1) := by rw [← hW1]; exact World.cell?_setCell_same _ _ _ (past lt c4)
  have d11 : W1.cell? ⟨S, 11, none⟩ = some (.slice (some ⟨K, 0, none⟩) n n) := by rw [← hW1]; exact other (by omega) (past lt c11)
  have hbel : Below S W W1 := by rw [← hW1]; exact ((Below.refl S W).alloc (Nat.le_of_lt lt) _).setCell (by exact Nat.le_refl _) _
  rw [hW1] at hlk hlock
  have HL : Hid (S < W.heap.size) := lt
  clear own hhas hkey hW1 bs c0 c2 c3 c4 z4 c11 c18 lt
  go_enter_defers Yba.func5, Yba.ntmps5
  go_wp2_with (go_at_call 6; refine hlock.mono ?_; rintro e w' ⟨rfl, rfl⟩)
  refine leaves_cons (f := 7) (args := #[.pointer (some ⟨S, 0, none⟩)]) (by simp) (by simp [go_sem]) ?_
  have hl := HL.out
  refine (ru S (.int .i32 0) (.int .u32 0) .returning _ (other (by omega) (other (by omega) (other (by omega) d0))) (other (by omega) (other (by omega) (other (by omega) d2))) (other (by omega) (other (by omega) (other (by omega) d4))) (by simp [f4])).mono ?_
  rintro e u' w'' ⟨rfl, rfl, rfl⟩
  refine ⟨_, results5 _ _ W.heap.size _ _ _ _ rfl rfl (other (by omega) (other (by omega) (other (by omega) (World.cell?_setCell_same _ _ _ e0)))) (other (by omega) (other (by omega) (World.cell?_setCell_same _ _ _ (other (by omega) e1)))) (other (by omega) (World.cell?_setCell_same _ _ _ (other (by omega) (other (by omega) e2)))), rfl, ?_, ?_⟩
  · exact (((hbel.setCell (by exact Nat.le_of_lt hl) _).setCell (by exact Nat.le_of_lt hl) _).setCell (by exact Nat.le_of_lt hl) _).setCell (by exact Nat.le_refl _) _
  · exact other (by omega) (other (by omega) (other (by omega) (other (by omega) d11)))
end Go.Proofs.Ybulkbmfe
