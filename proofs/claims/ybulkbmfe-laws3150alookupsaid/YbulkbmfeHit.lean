import Derived.Test.YbulkbmfeApi
namespace Go.Proofs.Ybulkbmfe
open Go.RowKit Go.WideMaps Go.Maps Go.Conc.Locks
set_option linter.unusedVariables false

def NewRoles (w' : World) (r r' : Option Addr) (lo c cap : Nat) : Prop :=
  (r = none ∧ r' = none ∧ c = 0 ∧ cap = 0) ∨ (∃ rb g cur, r = some ⟨rb, 0, none⟩ ∧ rb < lo ∧ r' = some ⟨g, 0, none⟩ ∧ lo ≤ g ∧ w'.heap[g]? = some (.cells cur 61 (0, 0)))

def ClonedAny (w : World) (r : Option Addr) (c : Nat) (e : Ending) (w' : World) : Prop :=
  ∃ r' cap, e = .returned (.slice r' c cap) ∧ NewRoles w' r r' w.heap.size c cap ∧ Below w.heap.size w w'

theorem clone_any {w : World} {K j c : Nat} {r : Option Addr} (h : RoleOk w K j c r) (hc : c < 8) : Calls Yba.prog 8 #[.slice r c c] w fun e w' => ClonedAny w r c e w' := by
  rcases h with ⟨rfl, rfl, _⟩ | ⟨rb, rfl, h2, h3⟩
  · refine (clone_nil w).mono ?_
    rintro e w' ⟨rfl, rfl⟩
    exact ⟨none, 0, rfl, .inl ⟨rfl, rfl, rfl, rfl⟩, Below.refl _ _⟩
  · have hlt := (Array.getElem?_eq_some_iff.1 h3).1
    refine (clone_some rb c w hc (fun i hi => (cell_of_row _ _ _ _ _ _ h3).trans (roles_cell c i hi)) hlt).mono ?_
    rintro e w' ⟨g, cap, rfl, hg, ⟨cur, hcur⟩, hb⟩
    exact ⟨_, cap, rfl, .inr ⟨rb, g, cur, rfl, hlt, rfl, hg, hcur⟩, hb⟩

theorem NewRoles.setCell {w' : World} {r r' : Option Addr} {lo c cap : Nat} (h : NewRoles w' r r' lo c cap) (b o : Nat) (v : Value) (hb : b < lo) : NewRoles (w'.setCell ⟨b, o, none⟩ v) r r' lo c cap := by
  rcases h with h | ⟨rb, g, cur, h1, h2, h3, h4, h5⟩
  · exact .inl h
  · refine .inr ⟨rb, g, cur, h1, h2, h3, h4, ?_⟩
    rw [RowKit.Below.heap_setCell _ _ _ _ (by show g ≠ b; omega)]
    exact h5

theorem RoleOk.below {W X : World} {K j c S : Nat} {r : Option Addr} (h : RoleOk W K j c r) (hS : ∀ a, r = some a → a.block < S) (hb : Below S W X) : RoleOk X K j c r := by
  rcases h with h | ⟨rb, rfl, h2, h3⟩
  · exact .inl h
  · exact .inr ⟨rb, rfl, h2, (hb.block rb (hS _ rfl)).trans h3⟩

def Hit (W : World) (S K n : Nat) (p v : ByteArray) (r : Option Addr) (c : Nat) (e : Ending) (w' : World) : Prop :=
  ∃ r' cap, e = .returned (.tuple #[.agg #[.string p, .string v, .slice r' c cap], .bool true]) ∧ NewRoles w' r r' (W.heap.size + 2) c cap ∧ Below S W w' ∧ w'.cell? ⟨S, 11, none⟩ = some (.slice (some ⟨K, 0, none⟩) n n)

set_option maxRecDepth 100000 in
set_option maxHeartbeats 1000000 in
theorem key_hit (S K n j c : Nat) (D : DataW Unit) (q p v : ByteArray) (r : Option Addr) (kl : Lit) (W : World) (h : StoreAt W S K n D) (hkey : keyOf Yba.prog 9 (.string q) = some kl) (hhas : Maps.has D kl = true)
    (hat : D.atKey kl (.lit (.int .i64 0)) = .lit (.int .i64 j)) (hj : j < n) (hn : n ≤ 1024)
    (k0 : W.cell? ⟨K, j * 3, none⟩ = some (.string p)) (k1 : W.cell? ⟨K, j * 3 + 1, none⟩ = some (.string v)) (k2 : W.cell? ⟨K, j * 3 + 2, none⟩ = some (.slice r c c)) (hr : RoleOk W K j c r) (hS : ∀ a, r = some a → a.block < S) (hc : c < 8) :
    Calls Yba.prog 5 #[.pointer (some ⟨S, 0, none⟩), .string q] W fun e w' => Hit W S K n p v r c e w' := by
  have hlock := locked h
  obtain ⟨lt, c0, c2, c3, c4, z4, c11, c18, bs, own⟩ := h
  obtain ⟨W1, hW1⟩ : ∃ W1, (W.alloc zK).setCell ⟨S, 4, none⟩ (.int .i32 1) = W1 := ⟨_, rfl⟩
  have hlk := lookup_fact ((own.alloc zK).setCell (a := ⟨S, 4, none⟩) (by simp; omega) (.int .i32 1)) hkey true hhas j hat
  have d18 : W1.cell? ⟨S, 18, none⟩ = some (.map (some (K + 1))) := by rw [← hW1]; exact other (by omega) (past lt c18)
  have e0 : W1.cell? ⟨W.heap.size, 0, none⟩ = some (.string { data := #[] }) := by rw [← hW1]; exact other (by omega) (by rw [World.cell?_alloc_new]; rfl)
  have e1 : W1.cell? ⟨W.heap.size, 1, none⟩ = some (.string { data := #[] }) := by rw [← hW1]; exact other (by omega) (by rw [World.cell?_alloc_new]; rfl)
  have e2 : W1.cell? ⟨W.heap.size, 2, none⟩ = some (.slice none 0 0) := by rw [← hW1]; exact other (by omega) (by rw [World.cell?_alloc_new]; rfl)
  have g0 : ∀ i, W1.frozen? ⟨W.heap.size, i, none⟩ = false := by intro i; rw [← hW1, World.frozen?_setCell, World.frozen?_alloc_new]
  have f4 : W1.frozen? ⟨S, 4, none⟩ = false := by rw [← hW1, World.frozen?_setCell, World.frozen?_alloc_past _ _ _ lt]; exact z4
  have d0 : W1.cell? ⟨S, 0, none⟩ = some (.int .i32 0) := by rw [← hW1]; exact other (by omega) (past lt c0)
  have d2 : W1.cell? ⟨S, 2, none⟩ = some (.int .u32 0) := by rw [← hW1]; exact other (by omega) (past lt c2)
  have d4 : W1.cell? ⟨S, 4, none⟩ = some (.int .i32 1) := by rw [← hW1]; exact World.cell?_setCell_same _ _ _ (past lt c4)
  have d11 : W1.cell? ⟨S, 11, none⟩ = some (.slice (some ⟨K, 0, none⟩) n n) := by rw [← hW1]; exact other (by omega) (past lt c11)
  have hbel : Below S W W1 := by rw [← hW1]; exact ((Below.refl S W).alloc (Nat.le_of_lt lt) _).setCell (by exact Nat.le_refl _) _
  have hsz : W1.heap.size = W.heap.size + 1 := by rw [← hW1]; simp
  have k0' : W1.cell? ⟨K, j * 3, none⟩ = some (.string p) := (hbel.cell (by show K < S; omega)).trans k0
  have k1' : W1.cell? ⟨K, j * 3 + 1, none⟩ = some (.string v) := (hbel.cell (by show K < S; omega)).trans k1
  have k2' : W1.cell? ⟨K, j * 3 + 2, none⟩ = some (.slice r c c) := (hbel.cell (by show K < S; omega)).trans k2
  have hj' : (j : Int) < (n : Int) := by omega
  rw [hW1] at hlk hlock
  have HL : Hid (S < W.heap.size ∧ W1.heap.size = W.heap.size + 1) := ⟨lt, hsz⟩
  clear own hhas hkey hW1 bs c0 c2 c3 c4 z4 c11 c18 lt hat k0 k1 k2 hsz
  have HR : Hid (RoleOk W K j c r ∧ ∀ a, r = some a → a.block < S) := ⟨hr, hS⟩
  clear hr hS
  go_enter_defers Yba.func5, Yba.ntmps5
  go_wp2_with (go_at_call 6; refine hlock.mono ?_; rintro e w' ⟨rfl, rfl⟩)
  obtain ⟨hl, hs⟩ := HL.out
  obtain ⟨hr, hS⟩ := HR.out
  refine (clone_any (K := K) (j := j) (hr.below hS (hbel.alloc (by omega) _)) hc).mono ?_
  rintro e w2 ⟨r', cap, rfl, hnew, hb2⟩
  have sz : (w'.alloc (.cells #[Value.string p, Value.string v, Value.slice r c c] 28)).heap.size = W.heap.size + 2 := by simp [hs]
  rw [sz] at hnew hb2
  have hbW : Below S W w2 := (hbel.alloc (by omega) _).trans (hb2.mono (by omega))
  have up : ∀ b i u, b < W.heap.size + 1 → w'.cell? ⟨b, i, none⟩ = some u → w2.cell? ⟨b, i, none⟩ = some u := fun b i u hlt h => (hb2.cell (by show b < W.heap.size + 2; omega)).trans (past (by omega) h)
  have upf : ∀ b i, b < W.heap.size + 1 → w'.frozen? ⟨b, i, none⟩ = false → w2.frozen? ⟨b, i, none⟩ = false := fun b i hlt h => (hb2.frozen (by show b < W.heap.size + 2; omega)).trans (by rw [World.frozen?_alloc_past _ _ _ (by omega)]; exact h)
  have x0 : w2.cell? ⟨w'.heap.size, 0, none⟩ = some (.string p) := (hb2.cell (by show w'.heap.size < W.heap.size + 2; omega)).trans (by rw [World.cell?_alloc_new]; rfl)
  have x1 : w2.cell? ⟨w'.heap.size, 1, none⟩ = some (.string v) := (hb2.cell (by show w'.heap.size < W.heap.size + 2; omega)).trans (by rw [World.cell?_alloc_new]; rfl)
  have x2 : w2.cell? ⟨w'.heap.size, 2, none⟩ = some (.slice r c c) := (hb2.cell (by show w'.heap.size < W.heap.size + 2; omega)).trans (by rw [World.cell?_alloc_new]; rfl)
  have xf : ∀ i, w2.frozen? ⟨w'.heap.size, i, none⟩ = false := fun i => (hb2.frozen (by show w'.heap.size < W.heap.size + 2; omega)).trans (by rw [World.frozen?_alloc_new])
  have y0 := up _ _ _ (by omega) e0
  have y1 := up _ _ _ (by omega) e1
  have y2 := up _ _ _ (by omega) e2
  have yf : ∀ i, w2.frozen? ⟨W.heap.size, i, none⟩ = false := fun i => upf _ _ (by omega) (g0 i)
  have v0 := up _ _ _ (by omega) d0
  have v2 := up _ _ _ (by omega) d2
  have v4 := up _ _ _ (by omega) d4
  have v11 := up _ _ _ (by omega) d11
  have vf := upf _ _ (by omega) f4
  clear up upf d0 d2 d4 d11 f4 d18 g0 e0 e1 e2 k0' k1' k2' hlk hlock hr hS HR
  rw [hs] at x0 x1 x2 xf ⊢
  have HN : Hid (NewRoles w2 r r' (W.heap.size + 2) c cap) := hnew
  clear hnew hs HL sz
  go_wp2
  refine leaves_cons (f := 7) (args := #[.pointer (some ⟨S, 0, none⟩)]) (by simp) (by simp [go_sem]) ?_
  refine (ru S (.int .i32 0) (.int .u32 0) .returning _ (other (by omega) (other (by omega) (other (by omega) (other (by omega) v0)))) (other (by omega) (other (by omega) (other (by omega) (other (by omega) v2)))) (other (by omega) (other (by omega) (other (by omega) (other (by omega) v4)))) (by simp [vf])).mono ?_
  rintro e u' w'' ⟨rfl, rfl, rfl⟩
  refine ⟨_, results5 _ _ W.heap.size _ _ _ _ rfl rfl (other (by omega) (other (by omega) (other (by omega) (World.cell?_setCell_same _ _ _ (other (by omega) y0))))) (other (by omega) (other (by omega) (World.cell?_setCell_same _ _ _ (other (by omega) (other (by omega) y1))))) (other (by omega) (World.cell?_setCell_same _ _ _ (other (by omega) (other (by omega) (other (by omega) y2))))), r', cap, rfl, ((((HN.out.setCell _ _ _ (by omega)).setCell _ _ _ (by omega)).setCell _ _ _ (by omega)).setCell _ _ _ (by omega)).setCell _ _ _ (by omega), ?_, ?_⟩
  · exact ((((hbW.setCell (by show S ≤ W.heap.size + 1; omega) _).setCell (by exact Nat.le_of_lt hl) _).setCell (by exact Nat.le_of_lt hl) _).setCell (by exact Nat.le_of_lt hl) _).setCell (by exact Nat.le_refl _) _
  · exact other (by omega) (other (by omega) (other (by omega) (other (by omega) (other (by omega) v11))))
end Go.Proofs.Ybulkbmfe
