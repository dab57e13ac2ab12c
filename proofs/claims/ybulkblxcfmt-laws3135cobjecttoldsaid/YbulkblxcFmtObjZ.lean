import Derived.Test.YbulkblxcFmtObjA
namespace Go.Proofs.YbulkblxcFmt
open Go.RowKit
set_option linter.unusedVariables false

/-- The same without a tail (nil, or of no element). -/
structure ObjZ (w0 : World) (B cap : Nat) (sp : Option Addr) (m0 m1 : Int) (ts : Nat → Int) (wB wC : World) : Prop where
  made : (Instr.makeSlice 26 (.int .i64 2) (.int .i64 2)).run Ybaf.prog w0 = .ok (.slice (some ⟨B, 0, none⟩) 2 2) wB
  c0 : wB.cell? ⟨B, 0, none⟩ = some (.int .u8 0)
  c1 : wB.cell? ⟨B, 1, none⟩ = some (.int .u8 0)
  f0 : wB.frozen? ⟨B, 0, none⟩ = false
  f1 : wB.frozen? ⟨B, 1, none⟩ = false
  copied : (Builtin.copy_ #[26, 26] 3 #[.slice (some ⟨B, 0, none⟩) 0 0, .slice sp 0 cap]).run Ybaf.prog ((wB.setCell ⟨B, 0, none⟩ (.int .u8 m0)).setCell ⟨B, 1, none⟩ (.int .u8 m1)) = .ok (goInt 0) wC
  row : Bytes wC B 0 2 (objBs m0 m1 ts)
  size : wC.heap.size = B + 1
  bel : Below B w0 wC

theorem obj_world0 (w0 : World) (cap : Nat) (sp : Option Addr) (m0 m1 : Int) (ts : Nat → Int) (hm0 : 0 ≤ m0 ∧ m0 ≤ 255) (hm1 : 0 ≤ m1 ∧ m1 ≤ 255) :
    ∃ wB wC, ObjZ w0 w0.heap.size cap sp m0 m1 ts wB wC := by
  have hmk : (Instr.makeSlice 26 (.int .i64 2) (.int .i64 2)).run Ybaf.prog w0 = .ok (.slice (some ⟨w0.heap.size, 0, none⟩) 2 2) (w0.alloc (.cells (madeCells #[.int .u8 0] 2) 5)) := make_bytes .i64 2 (by omega) w0
  have hnew := heap_alloc_new w0 (.cells (madeCells #[.int .u8 0] 2) 5)
  have hcell : ∀ j, j < 2 → (w0.alloc (.cells (madeCells #[.int .u8 0] 2) 5)).cell? ⟨w0.heap.size, j, none⟩ = some (.int .u8 0) := by
    intro j hj
    rw [World.cell?_alloc_at _ _ _ _ rfl, ← Array.getElem?_toList, toList_madeCells_one]
    rcases (by omega : j = 0 ∨ j = 1) with rfl | rfl <;> rfl
  have hfr : ∀ j, (w0.alloc (.cells (madeCells #[.int .u8 0] 2) 5)).frozen? ⟨w0.heap.size, j, none⟩ = false := by
    intro j; go_simp
  have hz := size_madeCells #[.int .u8 0] 2
  generalize hcur : madeCells #[Value.int .u8 0] 2 = cur at *
  generalize hwB : w0.alloc (.cells cur 5) = wB at *
  have hbB : Below w0.heap.size w0 wB := by rw [← hwB]; exact (Below.refl _ _).alloc (Nat.le_refl _) _
  have hsB : wB.heap.size = w0.heap.size + 1 := by rw [← hwB]; simp
  clear hwB hcur
  have hb2 : Below w0.heap.size w0 ((wB.setCell ⟨w0.heap.size, 0, none⟩ (.int .u8 m0)).setCell ⟨w0.heap.size, 1, none⟩ (.int .u8 m1)) := (hbB.setCell (p := ⟨w0.heap.size, 0, none⟩) (Nat.le_refl _) _).setCell (p := ⟨w0.heap.size, 1, none⟩) (Nat.le_refl _) _
  have hrow2 : ((wB.setCell ⟨w0.heap.size, 0, none⟩ (.int .u8 m0)).setCell ⟨w0.heap.size, 1, none⟩ (.int .u8 m1)).heap[w0.heap.size]? = some (.cells ((cur.setIfInBounds 0 (.int .u8 m0)).setIfInBounds 1 (.int .u8 m1)) 5 (0, 0)) :=
    heap_setCell_same _ _ _ _ _ _ (heap_setCell_same _ _ _ _ _ _ hnew)
  refine ⟨wB, _, hmk, hcell 0 (by omega), hcell 1 (by omega), hfr 0, hfr 1, run_copy_none (P := Ybaf.prog) _ 26 26 3 5 _ sp 0 0 0 cap Ybaf.underlying26 size5 rfl, ?_, by simp [World.setCell, hsB], hb2⟩
  intro j hj
  rw [cell_of_row _ w0.heap.size (0 + j) _ _ _ hrow2]
  rcases (by omega : j = 0 ∨ j = 1) with rfl | rfl
  · exact ⟨(set2 cur (by omega) _ _).1, hm0⟩
  · exact ⟨(set2 cur (by omega) _ _).2, hm1⟩

set_option maxHeartbeats 800000 in
set_option maxRecDepth 100000 in
theorem objz_false_0 (M mo mc bm cap s : Nat) (sp : Option Addr) (w : World) (P : PeW w.heap.size M mo mc bm w) (hs : s ≤ 255) (h5 : s % 5 = 0) :
    Calls Ybaf.prog 7 #[.int .u8 s, .bool false, .slice sp 0 cap] w fun e w' => e = .returned (.bool true) ∧ Below w.heap.size w w' := by
  have h5' : (s : Int) % 5 = 0 := by omega
  obtain ⟨wB, wC, O⟩ := obj_world0 (w.alloc objTab) cap sp 76 1 (fun _ => 0) (by omega) (by omega)
  rw [show (w.alloc objTab).heap.size = w.heap.size + 1 from by simp] at O
  have hmk := O.made
  have c0 := O.c0
  have c1 := O.c1
  have f0 := O.f0
  have f1 := O.f1
  have hcp := O.copied
  have hbel : Below w.heap.size w wC := ((Below.refl _ _).alloc (Nat.le_refl _) _).trans (O.bel.mono (by omega))
  have HS : Hid (wC.heap.size = w.heap.size + 1 + 1) := O.size
  have h5n : Hid (s % 5 = 0) := h5
  clear h5
  go_enter Ybaf.func7, Ybaf.ntmps7
  go_wp2_with fail
  refine (new_any 55 ⟨wC.heap.size, 0, none⟩ 2 _ (by omega) (by omega)).mono ?_
  rintro e w3 ⟨rfl, hw3⟩
  obtain ⟨hrd, hb3⟩ := obj_rd (w := w) O.row (by have := HS.out; omega) (by omega) rfl hw3
  rw [show (wC.alloc (.cells #[.slice (some ⟨w.heap.size + 1, 0, none⟩) 2 2, .int .i64 0, .bool false] 57)).heap.size = wC.heap.size + 1 from by simp]
  have hb3' : Below w.heap.size w w3 := hbel.trans (hb3.mono hbel.size)
  have hP3 := P.below hb3'
  clear hw3
  go_wp2_with fail
  refine (loc_obj w.heap.size M mo mc bm (wC.heap.size + 1) wC.heap.size (w.heap.size + 1) 0 2 2 0 (objBs 76 1 (fun _ => 0)) w3 hP3 hrd (by omega) hbel.size (by omega) (isMZ_no (by omega))).mono ?_
  rw [show isMach (le2 (objBs 76 1 (fun _ => 0) 0) (objBs 76 1 (fun _ => 0) 1)) = true from by simp [objBs, le2, isMach], show cofS true = ⟨#[99, 111, 102, 102]⟩ from rfl]
  rintro e w4 ⟨rfl, k4, hk4, hrd4, hkp4⟩
  have hb4 : Below w.heap.size w w4 := hb3'.trans (hkp4.below hbel.size hb3'.size)
  clear hkp4 hrd4
  go_wp2
  go_ret
  exact ⟨rfl, hb4⟩

set_option maxHeartbeats 800000 in
set_option maxRecDepth 100000 in
theorem objz_false_1 (M mo mc bm cap s : Nat) (sp : Option Addr) (w : World) (P : PeW w.heap.size M mo mc bm w) (hs : s ≤ 255) (h5 : s % 5 = 1) :
    Calls Ybaf.prog 7 #[.int .u8 s, .bool false, .slice sp 0 cap] w fun e w' => e = .returned (.bool true) ∧ Below w.heap.size w w' := by
  have h5' : (s : Int) % 5 = 1 := by omega
  obtain ⟨wB, wC, O⟩ := obj_world0 (w.alloc objTab) cap sp 192 1 (fun _ => 0) (by omega) (by omega)
  rw [show (w.alloc objTab).heap.size = w.heap.size + 1 from by simp] at O
  have hmk := O.made
  have c0 := O.c0
  have c1 := O.c1
  have f0 := O.f0
  have f1 := O.f1
  have hcp := O.copied
  have hbel : Below w.heap.size w wC := ((Below.refl _ _).alloc (Nat.le_refl _) _).trans (O.bel.mono (by omega))
  have HS : Hid (wC.heap.size = w.heap.size + 1 + 1) := O.size
  have h5n : Hid (s % 5 = 1) := h5
  clear h5
  go_enter Ybaf.func7, Ybaf.ntmps7
  go_wp2_with fail
  refine (new_any 55 ⟨wC.heap.size, 0, none⟩ 2 _ (by omega) (by omega)).mono ?_
  rintro e w3 ⟨rfl, hw3⟩
  obtain ⟨hrd, hb3⟩ := obj_rd (w := w) O.row (by have := HS.out; omega) (by omega) rfl hw3
  rw [show (wC.alloc (.cells #[.slice (some ⟨w.heap.size + 1, 0, none⟩) 2 2, .int .i64 0, .bool false] 57)).heap.size = wC.heap.size + 1 from by simp]
  have hb3' : Below w.heap.size w w3 := hbel.trans (hb3.mono hbel.size)
  have hP3 := P.below hb3'
  clear hw3
  go_wp2_with fail
  refine (loc_obj w.heap.size M mo mc bm (wC.heap.size + 1) wC.heap.size (w.heap.size + 1) 0 2 2 0 (objBs 192 1 (fun _ => 0)) w3 hP3 hrd (by omega) hbel.size (by omega) (isMZ_no (by omega))).mono ?_
  rw [show isMach (le2 (objBs 192 1 (fun _ => 0) 0) (objBs 192 1 (fun _ => 0) 1)) = true from by simp [objBs, le2, isMach], show cofS true = ⟨#[99, 111, 102, 102]⟩ from rfl]
  rintro e w4 ⟨rfl, k4, hk4, hrd4, hkp4⟩
  have hb4 : Below w.heap.size w w4 := hb3'.trans (hkp4.below hbel.size hb3'.size)
  clear hkp4 hrd4
  go_wp2
  go_ret
  exact ⟨rfl, hb4⟩

set_option maxHeartbeats 800000 in
set_option maxRecDepth 100000 in
theorem objz_false_2 (M mo mc bm cap s : Nat) (sp : Option Addr) (w : World) (P : PeW w.heap.size M mo mc bm w) (hs : s ≤ 255) (h5 : s % 5 = 2) :
    Calls Ybaf.prog 7 #[.int .u8 s, .bool false, .slice sp 0 cap] w fun e w' => e = .returned (.bool true) ∧ Below w.heap.size w w' := by
  have h5' : (s : Int) % 5 = 2 := by omega
  obtain ⟨wB, wC, O⟩ := obj_world0 (w.alloc objTab) cap sp 196 1 (fun _ => 0) (by omega) (by omega)
  rw [show (w.alloc objTab).heap.size = w.heap.size + 1 from by simp] at O
  have hmk := O.made
  have c0 := O.c0
  have c1 := O.c1
  have f0 := O.f0
  have f1 := O.f1
  have hcp := O.copied
  have hbel : Below w.heap.size w wC := ((Below.refl _ _).alloc (Nat.le_refl _) _).trans (O.bel.mono (by omega))
  have HS : Hid (wC.heap.size = w.heap.size + 1 + 1) := O.size
  have h5n : Hid (s % 5 = 2) := h5
  clear h5
  go_enter Ybaf.func7, Ybaf.ntmps7
  go_wp2_with fail
  refine (new_any 55 ⟨wC.heap.size, 0, none⟩ 2 _ (by omega) (by omega)).mono ?_
  rintro e w3 ⟨rfl, hw3⟩
  obtain ⟨hrd, hb3⟩ := obj_rd (w := w) O.row (by have := HS.out; omega) (by omega) rfl hw3
  rw [show (wC.alloc (.cells #[.slice (some ⟨w.heap.size + 1, 0, none⟩) 2 2, .int .i64 0, .bool false] 57)).heap.size = wC.heap.size + 1 from by simp]
  have hb3' : Below w.heap.size w w3 := hbel.trans (hb3.mono hbel.size)
  have hP3 := P.below hb3'
  clear hw3
  go_wp2_with fail
  refine (loc_obj w.heap.size M mo mc bm (wC.heap.size + 1) wC.heap.size (w.heap.size + 1) 0 2 2 0 (objBs 196 1 (fun _ => 0)) w3 hP3 hrd (by omega) hbel.size (by omega) (isMZ_no (by omega))).mono ?_
  rw [show isMach (le2 (objBs 196 1 (fun _ => 0) 0) (objBs 196 1 (fun _ => 0) 1)) = true from by simp [objBs, le2, isMach], show cofS true = ⟨#[99, 111, 102, 102]⟩ from rfl]
  rintro e w4 ⟨rfl, k4, hk4, hrd4, hkp4⟩
  have hb4 : Below w.heap.size w w4 := hb3'.trans (hkp4.below hbel.size hb3'.size)
  clear hkp4 hrd4
  go_wp2
  go_ret
  exact ⟨rfl, hb4⟩

set_option maxHeartbeats 800000 in
set_option maxRecDepth 100000 in
theorem objz_false_3 (M mo mc bm cap s : Nat) (sp : Option Addr) (w : World) (P : PeW w.heap.size M mo mc bm w) (hs : s ≤ 255) (h5 : s % 5 = 3) :
    Calls Ybaf.prog 7 #[.int .u8 s, .bool false, .slice sp 0 cap] w fun e w' => e = .returned (.bool true) ∧ Below w.heap.size w w' := by
  have h5' : (s : Int) % 5 = 3 := by omega
  obtain ⟨wB, wC, O⟩ := obj_world0 (w.alloc objTab) cap sp 100 134 (fun _ => 0) (by omega) (by omega)
  rw [show (w.alloc objTab).heap.size = w.heap.size + 1 from by simp] at O
  have hmk := O.made
  have c0 := O.c0
  have c1 := O.c1
  have f0 := O.f0
  have f1 := O.f1
  have hcp := O.copied
  have hbel : Below w.heap.size w wC := ((Below.refl _ _).alloc (Nat.le_refl _) _).trans (O.bel.mono (by omega))
  have HS : Hid (wC.heap.size = w.heap.size + 1 + 1) := O.size
  have h5n : Hid (s % 5 = 3) := h5
  clear h5
  go_enter Ybaf.func7, Ybaf.ntmps7
  go_wp2_with fail
  refine (new_any 55 ⟨wC.heap.size, 0, none⟩ 2 _ (by omega) (by omega)).mono ?_
  rintro e w3 ⟨rfl, hw3⟩
  obtain ⟨hrd, hb3⟩ := obj_rd (w := w) O.row (by have := HS.out; omega) (by omega) rfl hw3
  rw [show (wC.alloc (.cells #[.slice (some ⟨w.heap.size + 1, 0, none⟩) 2 2, .int .i64 0, .bool false] 57)).heap.size = wC.heap.size + 1 from by simp]
  have hb3' : Below w.heap.size w w3 := hbel.trans (hb3.mono hbel.size)
  have hP3 := P.below hb3'
  clear hw3
  go_wp2_with fail
  refine (loc_obj w.heap.size M mo mc bm (wC.heap.size + 1) wC.heap.size (w.heap.size + 1) 0 2 2 0 (objBs 100 134 (fun _ => 0)) w3 hP3 hrd (by omega) hbel.size (by omega) (isMZ_no (by omega))).mono ?_
  rw [show isMach (le2 (objBs 100 134 (fun _ => 0) 0) (objBs 100 134 (fun _ => 0) 1)) = true from by simp [objBs, le2, isMach], show cofS true = ⟨#[99, 111, 102, 102]⟩ from rfl]
  rintro e w4 ⟨rfl, k4, hk4, hrd4, hkp4⟩
  have hb4 : Below w.heap.size w w4 := hb3'.trans (hkp4.below hbel.size hb3'.size)
  clear hkp4 hrd4
  go_wp2
  go_ret
  exact ⟨rfl, hb4⟩

set_option maxHeartbeats 800000 in
set_option maxRecDepth 100000 in
theorem objz_false_4 (M mo mc bm cap s : Nat) (sp : Option Addr) (w : World) (P : PeW w.heap.size M mo mc bm w) (hs : s ≤ 255) (h5 : s % 5 = 4) :
    Calls Ybaf.prog 7 #[.int .u8 s, .bool false, .slice sp 0 cap] w fun e w' => e = .returned (.bool true) ∧ Below w.heap.size w w' := by
  have h5' : (s : Int) % 5 = 4 := by omega
  obtain ⟨wB, wC, O⟩ := obj_world0 (w.alloc objTab) cap sp 100 170 (fun _ => 0) (by omega) (by omega)
  rw [show (w.alloc objTab).heap.size = w.heap.size + 1 from by simp] at O
  have hmk := O.made
  have c0 := O.c0
  have c1 := O.c1
  have f0 := O.f0
  have f1 := O.f1
  have hcp := O.copied
  have hbel : Below w.heap.size w wC := ((Below.refl _ _).alloc (Nat.le_refl _) _).trans (O.bel.mono (by omega))
  have HS : Hid (wC.heap.size = w.heap.size + 1 + 1) := O.size
  have h5n : Hid (s % 5 = 4) := h5
  clear h5
  go_enter Ybaf.func7, Ybaf.ntmps7
  go_wp2_with fail
  refine (new_any 55 ⟨wC.heap.size, 0, none⟩ 2 _ (by omega) (by omega)).mono ?_
  rintro e w3 ⟨rfl, hw3⟩
  obtain ⟨hrd, hb3⟩ := obj_rd (w := w) O.row (by have := HS.out; omega) (by omega) rfl hw3
  rw [show (wC.alloc (.cells #[.slice (some ⟨w.heap.size + 1, 0, none⟩) 2 2, .int .i64 0, .bool false] 57)).heap.size = wC.heap.size + 1 from by simp]
  have hb3' : Below w.heap.size w w3 := hbel.trans (hb3.mono hbel.size)
  have hP3 := P.below hb3'
  clear hw3
  go_wp2_with fail
  refine (loc_obj w.heap.size M mo mc bm (wC.heap.size + 1) wC.heap.size (w.heap.size + 1) 0 2 2 0 (objBs 100 170 (fun _ => 0)) w3 hP3 hrd (by omega) hbel.size (by omega) (isMZ_no (by omega))).mono ?_
  rw [show isMach (le2 (objBs 100 170 (fun _ => 0) 0) (objBs 100 170 (fun _ => 0) 1)) = true from by simp [objBs, le2, isMach], show cofS true = ⟨#[99, 111, 102, 102]⟩ from rfl]
  rintro e w4 ⟨rfl, k4, hk4, hrd4, hkp4⟩
  have hb4 : Below w.heap.size w w4 := hb3'.trans (hkp4.below hbel.size hb3'.size)
  clear hkp4 hrd4
  go_wp2
  go_ret
  exact ⟨rfl, hb4⟩

set_option maxHeartbeats 800000 in
set_option maxRecDepth 100000 in
theorem objz_true_0 (M mo mc bm cap s : Nat) (sp : Option Addr) (w : World) (P : PeW w.heap.size M mo mc bm w) (hs : s ≤ 255) (h5 : s % 5 = 0) :
    Calls Ybaf.prog 7 #[.int .u8 s, .bool true, .slice sp 0 cap] w fun e w' => e = .returned (.bool true) ∧ Below w.heap.size w w' := by
  have h5' : (s : Int) % 5 = 0 := by omega
  have hx : bits .xor .u16 332 256 = 76 := by decide +kernel
  obtain ⟨wB, wC, O⟩ := obj_world0 (w.alloc objTab) cap sp 76 0 (fun _ => 0) (by omega) (by omega)
  rw [show (w.alloc objTab).heap.size = w.heap.size + 1 from by simp] at O
  have hmk := O.made
  have c0 := O.c0
  have c1 := O.c1
  have f0 := O.f0
  have f1 := O.f1
  have hcp := O.copied
  have hbel : Below w.heap.size w wC := ((Below.refl _ _).alloc (Nat.le_refl _) _).trans (O.bel.mono (by omega))
  have HS : Hid (wC.heap.size = w.heap.size + 1 + 1) := O.size
  have h5n : Hid (s % 5 = 0) := h5
  clear h5
  go_enter Ybaf.func7, Ybaf.ntmps7
  go_wp2_with fail
  refine (new_any 55 ⟨wC.heap.size, 0, none⟩ 2 _ (by omega) (by omega)).mono ?_
  rintro e w3 ⟨rfl, hw3⟩
  obtain ⟨hrd, hb3⟩ := obj_rd (w := w) O.row (by have := HS.out; omega) (by omega) rfl hw3
  rw [show (wC.alloc (.cells #[.slice (some ⟨w.heap.size + 1, 0, none⟩) 2 2, .int .i64 0, .bool false] 57)).heap.size = wC.heap.size + 1 from by simp]
  have hb3' : Below w.heap.size w w3 := hbel.trans (hb3.mono hbel.size)
  have hP3 := P.below hb3'
  clear hw3
  go_wp2_with fail
  refine (loc_obj w.heap.size M mo mc bm (wC.heap.size + 1) wC.heap.size (w.heap.size + 1) 0 2 2 0 (objBs 76 0 (fun _ => 0)) w3 hP3 hrd (by omega) hbel.size (by omega) (isMZ_no (by omega))).mono ?_
  rw [show isMach (le2 (objBs 76 0 (fun _ => 0) 0) (objBs 76 0 (fun _ => 0) 1)) = false from by simp [objBs, le2, isMach], show cofS false = ⟨#[]⟩ from rfl]
  rintro e w4 ⟨rfl, k4, hk4, hrd4, hkp4⟩
  have hb4 : Below w.heap.size w w4 := hb3'.trans (hkp4.below hbel.size hb3'.size)
  clear hkp4 hrd4
  go_wp2
  go_ret
  exact ⟨rfl, hb4⟩

set_option maxHeartbeats 800000 in
set_option maxRecDepth 100000 in
theorem objz_true_1 (M mo mc bm cap s : Nat) (sp : Option Addr) (w : World) (P : PeW w.heap.size M mo mc bm w) (hs : s ≤ 255) (h5 : s % 5 = 1) :
    Calls Ybaf.prog 7 #[.int .u8 s, .bool true, .slice sp 0 cap] w fun e w' => e = .returned (.bool true) ∧ Below w.heap.size w w' := by
  have h5' : (s : Int) % 5 = 1 := by omega
  have hx : bits .xor .u16 448 256 = 192 := by decide +kernel
  obtain ⟨wB, wC, O⟩ := obj_world0 (w.alloc objTab) cap sp 192 0 (fun _ => 0) (by omega) (by omega)
  rw [show (w.alloc objTab).heap.size = w.heap.size + 1 from by simp] at O
  have hmk := O.made
  have c0 := O.c0
  have c1 := O.c1
  have f0 := O.f0
  have f1 := O.f1
  have hcp := O.copied
  have hbel : Below w.heap.size w wC := ((Below.refl _ _).alloc (Nat.le_refl _) _).trans (O.bel.mono (by omega))
  have HS : Hid (wC.heap.size = w.heap.size + 1 + 1) := O.size
  have h5n : Hid (s % 5 = 1) := h5
  clear h5
  go_enter Ybaf.func7, Ybaf.ntmps7
  go_wp2_with fail
  refine (new_any 55 ⟨wC.heap.size, 0, none⟩ 2 _ (by omega) (by omega)).mono ?_
  rintro e w3 ⟨rfl, hw3⟩
  obtain ⟨hrd, hb3⟩ := obj_rd (w := w) O.row (by have := HS.out; omega) (by omega) rfl hw3
  rw [show (wC.alloc (.cells #[.slice (some ⟨w.heap.size + 1, 0, none⟩) 2 2, .int .i64 0, .bool false] 57)).heap.size = wC.heap.size + 1 from by simp]
  have hb3' : Below w.heap.size w w3 := hbel.trans (hb3.mono hbel.size)
  have hP3 := P.below hb3'
  clear hw3
  go_wp2_with fail
  refine (loc_obj w.heap.size M mo mc bm (wC.heap.size + 1) wC.heap.size (w.heap.size + 1) 0 2 2 0 (objBs 192 0 (fun _ => 0)) w3 hP3 hrd (by omega) hbel.size (by omega) (isMZ_no (by omega))).mono ?_
  rw [show isMach (le2 (objBs 192 0 (fun _ => 0) 0) (objBs 192 0 (fun _ => 0) 1)) = false from by simp [objBs, le2, isMach], show cofS false = ⟨#[]⟩ from rfl]
  rintro e w4 ⟨rfl, k4, hk4, hrd4, hkp4⟩
  have hb4 : Below w.heap.size w w4 := hb3'.trans (hkp4.below hbel.size hb3'.size)
  clear hkp4 hrd4
  go_wp2
  go_ret
  exact ⟨rfl, hb4⟩

set_option maxHeartbeats 800000 in
set_option maxRecDepth 100000 in
theorem objz_true_2 (M mo mc bm cap s : Nat) (sp : Option Addr) (w : World) (P : PeW w.heap.size M mo mc bm w) (hs : s ≤ 255) (h5 : s % 5 = 2) :
    Calls Ybaf.prog 7 #[.int .u8 s, .bool true, .slice sp 0 cap] w fun e w' => e = .returned (.bool true) ∧ Below w.heap.size w w' := by
  have h5' : (s : Int) % 5 = 2 := by omega
  have hx : bits .xor .u16 452 256 = 196 := by decide +kernel
  obtain ⟨wB, wC, O⟩ := obj_world0 (w.alloc objTab) cap sp 196 0 (fun _ => 0) (by omega) (by omega)
  rw [show (w.alloc objTab).heap.size = w.heap.size + 1 from by simp] at O
  have hmk := O.made
  have c0 := O.c0
  have c1 := O.c1
  have f0 := O.f0
  have f1 := O.f1
  have hcp := O.copied
  have hbel : Below w.heap.size w wC := ((Below.refl _ _).alloc (Nat.le_refl _) _).trans (O.bel.mono (by omega))
  have HS : Hid (wC.heap.size = w.heap.size + 1 + 1) := O.size
  have h5n : Hid (s % 5 = 2) := h5
  clear h5
  go_enter Ybaf.func7, Ybaf.ntmps7
  go_wp2_with fail
  refine (new_any 55 ⟨wC.heap.size, 0, none⟩ 2 _ (by omega) (by omega)).mono ?_
  rintro e w3 ⟨rfl, hw3⟩
  obtain ⟨hrd, hb3⟩ := obj_rd (w := w) O.row (by have := HS.out; omega) (by omega) rfl hw3
  rw [show (wC.alloc (.cells #[.slice (some ⟨w.heap.size + 1, 0, none⟩) 2 2, .int .i64 0, .bool false] 57)).heap.size = wC.heap.size + 1 from by simp]
  have hb3' : Below w.heap.size w w3 := hbel.trans (hb3.mono hbel.size)
  have hP3 := P.below hb3'
  clear hw3
  go_wp2_with fail
  refine (loc_obj w.heap.size M mo mc bm (wC.heap.size + 1) wC.heap.size (w.heap.size + 1) 0 2 2 0 (objBs 196 0 (fun _ => 0)) w3 hP3 hrd (by omega) hbel.size (by omega) (isMZ_no (by omega))).mono ?_
  rw [show isMach (le2 (objBs 196 0 (fun _ => 0) 0) (objBs 196 0 (fun _ => 0) 1)) = false from by simp [objBs, le2, isMach], show cofS false = ⟨#[]⟩ from rfl]
  rintro e w4 ⟨rfl, k4, hk4, hrd4, hkp4⟩
  have hb4 : Below w.heap.size w w4 := hb3'.trans (hkp4.below hbel.size hb3'.size)
  clear hkp4 hrd4
  go_wp2
  go_ret
  exact ⟨rfl, hb4⟩

set_option maxHeartbeats 800000 in
set_option maxRecDepth 100000 in
theorem objz_true_3 (M mo mc bm cap s : Nat) (sp : Option Addr) (w : World) (P : PeW w.heap.size M mo mc bm w) (hs : s ≤ 255) (h5 : s % 5 = 3) :
    Calls Ybaf.prog 7 #[.int .u8 s, .bool true, .slice sp 0 cap] w fun e w' => e = .returned (.bool true) ∧ Below w.heap.size w w' := by
  have h5' : (s : Int) % 5 = 3 := by omega
  have hx : bits .xor .u16 34404 256 = 34660 := by decide +kernel
  obtain ⟨wB, wC, O⟩ := obj_world0 (w.alloc objTab) cap sp 100 135 (fun _ => 0) (by omega) (by omega)
  rw [show (w.alloc objTab).heap.size = w.heap.size + 1 from by simp] at O
  have hmk := O.made
  have c0 := O.c0
  have c1 := O.c1
  have f0 := O.f0
  have f1 := O.f1
  have hcp := O.copied
  have hbel : Below w.heap.size w wC := ((Below.refl _ _).alloc (Nat.le_refl _) _).trans (O.bel.mono (by omega))
  have HS : Hid (wC.heap.size = w.heap.size + 1 + 1) := O.size
  have h5n : Hid (s % 5 = 3) := h5
  clear h5
  go_enter Ybaf.func7, Ybaf.ntmps7
  go_wp2_with fail
  refine (new_any 55 ⟨wC.heap.size, 0, none⟩ 2 _ (by omega) (by omega)).mono ?_
  rintro e w3 ⟨rfl, hw3⟩
  obtain ⟨hrd, hb3⟩ := obj_rd (w := w) O.row (by have := HS.out; omega) (by omega) rfl hw3
  rw [show (wC.alloc (.cells #[.slice (some ⟨w.heap.size + 1, 0, none⟩) 2 2, .int .i64 0, .bool false] 57)).heap.size = wC.heap.size + 1 from by simp]
  have hb3' : Below w.heap.size w w3 := hbel.trans (hb3.mono hbel.size)
  have hP3 := P.below hb3'
  clear hw3
  go_wp2_with fail
  refine (loc_obj w.heap.size M mo mc bm (wC.heap.size + 1) wC.heap.size (w.heap.size + 1) 0 2 2 0 (objBs 100 135 (fun _ => 0)) w3 hP3 hrd (by omega) hbel.size (by omega) (isMZ_no (by omega))).mono ?_
  rw [show isMach (le2 (objBs 100 135 (fun _ => 0) 0) (objBs 100 135 (fun _ => 0) 1)) = false from by simp [objBs, le2, isMach], show cofS false = ⟨#[]⟩ from rfl]
  rintro e w4 ⟨rfl, k4, hk4, hrd4, hkp4⟩
  have hb4 : Below w.heap.size w w4 := hb3'.trans (hkp4.below hbel.size hb3'.size)
  clear hkp4 hrd4
  go_wp2
  go_ret
  exact ⟨rfl, hb4⟩

set_option maxHeartbeats 800000 in
set_option maxRecDepth 100000 in
theorem objz_true_4 (M mo mc bm cap s : Nat) (sp : Option Addr) (w : World) (P : PeW w.heap.size M mo mc bm w) (hs : s ≤ 255) (h5 : s % 5 = 4) :
    Calls Ybaf.prog 7 #[.int .u8 s, .bool true, .slice sp 0 cap] w fun e w' => e = .returned (.bool true) ∧ Below w.heap.size w w' := by
  have h5' : (s : Int) % 5 = 4 := by omega
  have hx : bits .xor .u16 43620 256 = 43876 := by decide +kernel
  obtain ⟨wB, wC, O⟩ := obj_world0 (w.alloc objTab) cap sp 100 171 (fun _ => 0) (by omega) (by omega)
  rw [show (w.alloc objTab).heap.size = w.heap.size + 1 from by simp] at O
  have hmk := O.made
  have c0 := O.c0
  have c1 := O.c1
  have f0 := O.f0
  have f1 := O.f1
  have hcp := O.copied
  have hbel : Below w.heap.size w wC := ((Below.refl _ _).alloc (Nat.le_refl _) _).trans (O.bel.mono (by omega))
  have HS : Hid (wC.heap.size = w.heap.size + 1 + 1) := O.size
  have h5n : Hid (s % 5 = 4) := h5
  clear h5
  go_enter Ybaf.func7, Ybaf.ntmps7
  go_wp2_with fail
  refine (new_any 55 ⟨wC.heap.size, 0, none⟩ 2 _ (by omega) (by omega)).mono ?_
  rintro e w3 ⟨rfl, hw3⟩
  obtain ⟨hrd, hb3⟩ := obj_rd (w := w) O.row (by have := HS.out; omega) (by omega) rfl hw3
  rw [show (wC.alloc (.cells #[.slice (some ⟨w.heap.size + 1, 0, none⟩) 2 2, .int .i64 0, .bool false] 57)).heap.size = wC.heap.size + 1 from by simp]
  have hb3' : Below w.heap.size w w3 := hbel.trans (hb3.mono hbel.size)
  have hP3 := P.below hb3'
  clear hw3
  go_wp2_with fail
  refine (loc_obj w.heap.size M mo mc bm (wC.heap.size + 1) wC.heap.size (w.heap.size + 1) 0 2 2 0 (objBs 100 171 (fun _ => 0)) w3 hP3 hrd (by omega) hbel.size (by omega) (isMZ_no (by omega))).mono ?_
  rw [show isMach (le2 (objBs 100 171 (fun _ => 0) 0) (objBs 100 171 (fun _ => 0) 1)) = false from by simp [objBs, le2, isMach], show cofS false = ⟨#[]⟩ from rfl]
  rintro e w4 ⟨rfl, k4, hk4, hrd4, hkp4⟩
  have hb4 : Below w.heap.size w w4 := hb3'.trans (hkp4.below hbel.size hb3'.size)
  clear hkp4 hrd4
  go_wp2
  go_ret
  exact ⟨rfl, hb4⟩

set_option maxHeartbeats 400000 in
theorem obj_big (a0 : Option Addr) (len cap : Nat) (s : Int) (fl : Bool) (w : World) (h : 4096 < len) (hm : len ≤ maxLen) :
    Calls Ybaf.prog 7 #[.int .u8 s, .bool fl, .slice a0 len cap] w fun e w' => e = .returned (.bool true) ∧ Below w.heap.size w w' := by
  unfold maxLen at hm
  have h' : (4096 : Int) < (len : Int) := by omega
  go_enter Ybaf.func7, Ybaf.ntmps7
  go_wp2
  go_ret
  exact ⟨rfl, Below.refl _ _⟩

/-- EVERY input of LawS3135CObject. -/
theorem obj_pos (M mo mc bm g o L cap s : Nat) (ts : Nat → Int) (fl : Bool) (w : World) (P : PeW w.heap.size M mo mc bm w) (hg : g < w.heap.size) (hL : 0 < L) (hL2 : L ≤ 4096) (ht : Bytes w g o L ts) (hs : s ≤ 255) :
    Calls Ybaf.prog 7 #[.int .u8 s, .bool fl, .slice (some ⟨g, o, none⟩) L cap] w fun e w' => e = .returned (.bool true) ∧ Below w.heap.size w w' := by
  rcases (by omega : s % 5 = 0 ∨ s % 5 = 1 ∨ s % 5 = 2 ∨ s % 5 = 3 ∨ s % 5 = 4) with h | h | h | h | h <;> cases fl
  · exact obj_false_0 M mo mc bm g o L cap s ts w P hg hL hL2 ht hs h
  · exact obj_true_0 M mo mc bm g o L cap s ts w P hg hL hL2 ht hs h
  · exact obj_false_1 M mo mc bm g o L cap s ts w P hg hL hL2 ht hs h
  · exact obj_true_1 M mo mc bm g o L cap s ts w P hg hL hL2 ht hs h
  · exact obj_false_2 M mo mc bm g o L cap s ts w P hg hL hL2 ht hs h
  · exact obj_true_2 M mo mc bm g o L cap s ts w P hg hL hL2 ht hs h
  · exact obj_false_3 M mo mc bm g o L cap s ts w P hg hL hL2 ht hs h
  · exact obj_true_3 M mo mc bm g o L cap s ts w P hg hL hL2 ht hs h
  · exact obj_false_4 M mo mc bm g o L cap s ts w P hg hL hL2 ht hs h
  · exact obj_true_4 M mo mc bm g o L cap s ts w P hg hL hL2 ht hs h

theorem obj_zero (M mo mc bm cap s : Nat) (sp : Option Addr) (fl : Bool) (w : World) (P : PeW w.heap.size M mo mc bm w) (hs : s ≤ 255) :
    Calls Ybaf.prog 7 #[.int .u8 s, .bool fl, .slice sp 0 cap] w fun e w' => e = .returned (.bool true) ∧ Below w.heap.size w w' := by
  rcases (by omega : s % 5 = 0 ∨ s % 5 = 1 ∨ s % 5 = 2 ∨ s % 5 = 3 ∨ s % 5 = 4) with h | h | h | h | h <;> cases fl
  · exact objz_false_0 M mo mc bm cap s sp w P hs h
  · exact objz_true_0 M mo mc bm cap s sp w P hs h
  · exact objz_false_1 M mo mc bm cap s sp w P hs h
  · exact objz_true_1 M mo mc bm cap s sp w P hs h
  · exact objz_false_2 M mo mc bm cap s sp w P hs h
  · exact objz_true_2 M mo mc bm cap s sp w P hs h
  · exact objz_false_3 M mo mc bm cap s sp w P hs h
  · exact objz_true_3 M mo mc bm cap s sp w P hs h
  · exact objz_false_4 M mo mc bm cap s sp w P hs h
  · exact objz_true_4 M mo mc bm cap s sp w P hs h

end Go.Proofs.YbulkblxcFmt
