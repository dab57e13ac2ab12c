import Derived.Test.YbulkblxcFmtLocObj
namespace Go.Proofs.YbulkblxcFmt
open Go.RowKit
set_option linter.unusedVariables false

/-- A Reader over a new zzs3135cra over a row of bytes. -/
theorem rd_start {D o n cap : Nat} {bs : Nat → Int} {fl : Bool} {w : World} (h : Bytes w D o n bs) (hD : D < w.heap.size) (hn : n ≤ 1000000) (hcap : n ≤ cap) (hcm : cap ≤ 1000000) :
    RdAt (w.heap.size + 1) w.heap.size D o n cap bs fl 0 ((w.alloc (.cells #[.slice (some ⟨D, o, none⟩) n cap, .int .i64 0, .bool fl] 57)).alloc (.cells #[.iface 55 (.pointer (some ⟨w.heap.size, 0, none⟩)), .int .u64 (n : Int)] 70)) := by
  refine ⟨?_, ?_, ?_, ?_, ?_, ?_, ?_, by omega, by omega, by simp; omega, hn, hcap, hcm⟩
  · go_simp
  · go_simp
  · go_simp
  · go_simp
  · go_simp
  · go_simp
  · exact h.below (((Below.refl w.heap.size _).alloc (Nat.le_refl _) _).alloc (by simp) _) hD

/-- The bytes of an object file that the law builds: two for the machine, the tail behind them. -/
def objBs (m0 m1 : Int) (ts : Nat → Int) : Nat → Int := fun j => if j = 0 then m0 else if j = 1 then m1 else ts (j - 2)

/-- 'd := make([]byte, 2+len(tail)); d[0], d[1] = ..; copy(d[2:], tail)': the worlds between. -/
structure ObjW (w0 : World) (B L g o cap : Nat) (sp : Option Addr) (m0 m1 : Int) (ts : Nat → Int) (wB wC : World) : Prop where
  made : (Instr.makeSlice 26 (.int .i64 (2 + (L : Int))) (.int .i64 (2 + (L : Int)))).run Ybaf.prog w0 = .ok (.slice (some ⟨B, 0, none⟩) (2 + L) (2 + L)) wB
  c0 : wB.cell? ⟨B, 0, none⟩ = some (.int .u8 0)
  c1 : wB.cell? ⟨B, 1, none⟩ = some (.int .u8 0)
  f0 : wB.frozen? ⟨B, 0, none⟩ = false
  f1 : wB.frozen? ⟨B, 1, none⟩ = false
  copied : (Builtin.copy_ #[26, 26] 3 #[.slice (some ⟨B, 2, none⟩) L L, .slice sp L cap]).run Ybaf.prog ((wB.setCell ⟨B, 0, none⟩ (.int .u8 m0)).setCell ⟨B, 1, none⟩ (.int .u8 m1)) = .ok (goInt L) wC
  row : Bytes wC B 0 (2 + L) (objBs m0 m1 ts)
  size : wC.heap.size = B + 1
  bel : Below B w0 wC

theorem copy_tail (w2 : World) (B L g o cap : Nat) (m0 m1 : Int) (ts : Nat → Int) (c2 : Array Value) (hrow : w2.heap[B]? = some (.cells c2 5 (0, 0))) (hz : c2.size = 2 + L) (h0 : c2[0]? = some (.int .u8 m0)) (h1 : c2[1]? = some (.int .u8 m1))
    (hm0 : 0 ≤ m0 ∧ m0 ≤ 255) (hm1 : 0 ≤ m1 ∧ m1 ≤ 255) (ht : Bytes w2 g o L ts) :
    ∃ X : Array Value, (Builtin.copy_ #[26, 26] 3 #[.slice (some ⟨B, 2, none⟩) L L, .slice (some ⟨g, o, none⟩) L cap]).run Ybaf.prog w2 = .ok (goInt L) (w2.setRow B X) ∧ Bytes (w2.setRow B X) B 0 (2 + L) (objBs m0 m1 ts) := by
  have h := run_copy_row (P := Ybaf.prog) w2 26 26 3 5 B 2 L L ⟨g, o, none⟩ L cap c2 5 (byteCells ts L) Ybaf.underlying26 size5 hrow (by rw [byteCells_length]; simp)
    (fun j v hv => by
      have hj : j < L := by have := (List.getElem?_eq_some_iff.1 hv).1; simpa [byteCells_length] using this
      rw [byteCells_get ts L j hj] at hv
      cases hv
      rw [add_mk]
      exact ht.at j hj) (by rw [byteCells_length]; omega) (byteCells_one ts L)
  rw [byteCells_length] at h
  refine ⟨_, h, ?_⟩
  intro j hj
  rw [cell_of_row _ B (0 + j) _ _ _ (setRow_heap _ _ _ _ _ _ hrow)]
  have hlen : (c2.toList.take 2).length = 2 := by simp; omega
  rcases Nat.lt_or_ge j 2 with h2 | h2
  · have e : ((c2.toList.take 2 ++ byteCells ts L ++ c2.toList.drop (2 + L)).toArray)[0 + j]? = c2[j]? := by
      simp only [List.getElem?_toArray, Nat.zero_add, List.append_assoc]
      rw [List.getElem?_append_left (by omega), List.getElem?_take, if_pos h2]
      simp
    rw [e]
    rcases (by omega : j = 0 ∨ j = 1) with rfl | rfl
    · exact ⟨h0, hm0⟩
    · exact ⟨h1, hm1⟩
  · have e : ((c2.toList.take 2 ++ byteCells ts L ++ c2.toList.drop (2 + L)).toArray)[0 + j]? = some (.int .u8 (ts (j - 2))) := by
      simp only [List.getElem?_toArray, Nat.zero_add, List.append_assoc]
      rw [List.getElem?_append_right (by omega), hlen, List.getElem?_append_left (by rw [byteCells_length]; omega), byteCells_get _ _ _ (by omega)]
    rw [e]
    have eo : objBs m0 m1 ts j = ts (j - 2) := by unfold objBs; rw [if_neg (by omega), if_neg (by omega)]
    rw [eo]
    exact ⟨rfl, ht.bd (j - 2) (by omega)⟩

theorem set2 (cur : Array Value) (h : 2 ≤ cur.size) (a b : Value) : ((cur.setIfInBounds 0 a).setIfInBounds 1 b)[0]? = some a ∧ ((cur.setIfInBounds 0 a).setIfInBounds 1 b)[1]? = some b := by
  have h0 : 0 < cur.size := by omega
  have h1 : 1 < cur.size := by omega
  simp [h0, h1]

theorem obj_world (w0 : World) (L g o cap : Nat) (m0 m1 : Int) (ts : Nat → Int) (hL : 0 < L) (hL2 : L ≤ 4096) (hm0 : 0 ≤ m0 ∧ m0 ≤ 255) (hm1 : 0 ≤ m1 ∧ m1 ≤ 255) (ht : Bytes w0 g o L ts) (hg : g < w0.heap.size) :
    ∃ wB wC, ObjW w0 w0.heap.size L g o cap (some ⟨g, o, none⟩) m0 m1 ts wB wC := by
  have hmk := make_bytes .i64 (2 + L) (by omega) w0
  rw [show ((2 + L : Nat) : Int) = 2 + (L : Int) from by omega] at hmk
  have hnew := heap_alloc_new w0 (.cells (madeCells #[.int .u8 0] (2 + L)) 5)
  have hcell : ∀ j, j < 2 + L → (w0.alloc (.cells (madeCells #[.int .u8 0] (2 + L)) 5)).cell? ⟨w0.heap.size, j, none⟩ = some (.int .u8 0) := by
    intro j hj
    rw [World.cell?_alloc_at _ _ _ _ rfl, ← Array.getElem?_toList, toList_madeCells_one]
    simp [hj]
  have hfr : ∀ j, (w0.alloc (.cells (madeCells #[.int .u8 0] (2 + L)) 5)).frozen? ⟨w0.heap.size, j, none⟩ = false := by
    intro j; go_simp
  have hz := size_madeCells #[.int .u8 0] (2 + L)
  generalize hcur : madeCells #[Value.int .u8 0] (2 + L) = cur at *
  generalize hwB : w0.alloc (.cells cur 5) = wB at *
  have hbB : Below w0.heap.size w0 wB := by rw [← hwB]; exact (Below.refl _ _).alloc (Nat.le_refl _) _
  have hsB : wB.heap.size = w0.heap.size + 1 := by rw [← hwB]; simp
  clear hwB hcur
  have hb2 : Below w0.heap.size w0 ((wB.setCell ⟨w0.heap.size, 0, none⟩ (.int .u8 m0)).setCell ⟨w0.heap.size, 1, none⟩ (.int .u8 m1)) := (hbB.setCell (p := ⟨w0.heap.size, 0, none⟩) (Nat.le_refl _) _).setCell (p := ⟨w0.heap.size, 1, none⟩) (Nat.le_refl _) _
  have hrow2 : ((wB.setCell ⟨w0.heap.size, 0, none⟩ (.int .u8 m0)).setCell ⟨w0.heap.size, 1, none⟩ (.int .u8 m1)).heap[w0.heap.size]? = some (.cells ((cur.setIfInBounds 0 (.int .u8 m0)).setIfInBounds 1 (.int .u8 m1)) 5 (0, 0)) :=
    heap_setCell_same _ _ _ _ _ _ (heap_setCell_same _ _ _ _ _ _ hnew)
  have hsz2 : ((wB.setCell ⟨w0.heap.size, 0, none⟩ (.int .u8 m0)).setCell ⟨w0.heap.size, 1, none⟩ (.int .u8 m1)).heap.size = w0.heap.size + 1 := by simp [World.setCell, hsB]
  obtain ⟨X, hc, hby⟩ := copy_tail _ w0.heap.size L g o cap m0 m1 ts _ hrow2 (by simp [hz]) (set2 cur (by omega) _ _).1 (set2 cur (by omega) _ _).2 hm0 hm1 (ht.below hb2 hg)
  exact ⟨wB, _, hmk, hcell 0 (by omega), hcell 1 (by omega), hfr 0, hfr 1, hc, hby, by simp [World.setCell, hsB], below_setRow hb2 (Nat.le_refl _) _⟩

end Go.Proofs.YbulkblxcFmt
