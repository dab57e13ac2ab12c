import Derived.Test.YbulkblxcFmtObj
namespace Go.Proofs.YbulkblxcFmt
open Go.RowKit
set_option linter.unusedVariables false

/-- The table of machines that the law lays. -/
abbrev objTab : Obj := .cells #[.int .u16 332, .int .u16 448, .int .u16 452, .int .u16 34404, .int .u16 43620] 65

theorem isMZ_no {n : Nat} {m0 m1 : Int} {ts : Nat → Int} (h : m0 ≠ 77) : isMZ n (objBs m0 m1 ts) = false := by simp [isMZ, objBs, h]

/-- The Reader that the law makes, and what its world is to the one that it began in. -/
theorem obj_rd {w wC w3 : World} {B n : Nat} {bs : Nat → Int} {N : Int} (hrow : Bytes wC B 0 n bs) (hB : B < wC.heap.size) (hn : n ≤ 1000000) (hN : N = (n : Int))
    (hw3 : w3 = (wC.alloc (.cells #[.slice (some ⟨B, 0, none⟩) n n, .int .i64 0, .bool false] 57)).alloc (.cells #[.iface 55 (.pointer (some ⟨wC.heap.size, 0, none⟩)), .int .u64 N] 70)) :
    RdAt (wC.heap.size + 1) wC.heap.size B 0 n n bs false 0 w3 ∧ Below wC.heap.size wC w3 := by
  subst hw3 hN
  exact ⟨rd_start hrow hB hn (Nat.le_refl _) hn, ((Below.refl _ _).alloc (Nat.le_refl _) _).alloc (by simp) _⟩

set_option maxHeartbeats 800000 in
set_option maxRecDepth 100000 in
theorem obj_false_0 (M mo mc bm g o L cap s : Nat) (ts : Nat → Int) (w : World) (P : PeW w.heap.size M mo mc bm w) (hg : g < w.heap.size) (hL : 0 < L) (hL2 : L ≤ 4096) (ht : Bytes w g o L ts) (hs : s ≤ 255) (h5 : s % 5 = 0) :
    Calls Ybaf.prog 7 #[.int .u8 s, .bool false, .slice (some ⟨g, o, none⟩) L cap] w fun e w' => e = .returned (.bool true) ∧ Below w.heap.size w w' := by
  have h5' : (s : Int) % 5 = 0 := by omega
  obtain ⟨wB, wC, O⟩ := obj_world (w.alloc objTab) L g o cap 76 1 ts hL hL2 (by omega) (by omega) (ht.below ((Below.refl w.heap.size _).alloc (Nat.le_refl _) _) hg) (by simp; omega)
  rw [show (w.alloc objTab).heap.size = w.heap.size + 1 from by simp] at O
  have hmk := O.made
  have c0 := O.c0
  have c1 := O.c1
  have f0 := O.f0
  have f1 := O.f1
  have hcp := O.copied
  have hbel : Below w.heap.size w wC := ((Below.refl _ _).alloc (Nat.le_refl _) _).trans (O.bel.mono (by omega))
  have HS : Hid (wC.heap.size = w.heap.size + 1 + 1) := O.size
  have h5n : Hid (s % 5 = 0) := h5
  clear h5
  go_enter Ybaf.func7, Ybaf.ntmps7
  go_wp2_with fail
  refine (new_any 55 ⟨wC.heap.size, 0, none⟩ (2 + (L : Int)) _ (by omega) (by omega)).mono ?_
  rintro e w3 ⟨rfl, hw3⟩
  obtain ⟨hrd, hb3⟩ := obj_rd (w := w) O.row (by have := HS.out; omega) (by omega) (by omega) hw3
  rw [show (wC.alloc (.cells #[.slice (some ⟨w.heap.size + 1, 0, none⟩) (2 + L) (2 + L), .int .i64 0, .bool false] 57)).heap.size = wC.heap.size + 1 from by simp]
  have hb3' : Below w.heap.size w w3 := hbel.trans (hb3.mono hbel.size)
  have hP3 := P.below hb3'
  clear hw3
  go_wp2_with fail
  refine (loc_obj w.heap.size M mo mc bm (wC.heap.size + 1) wC.heap.size (w.heap.size + 1) 0 (2 + L) (2 + L) 0 (objBs 76 1 ts) w3 hP3 hrd (by omega) hbel.size (by omega) (isMZ_no (by omega))).mono ?_
  rw [show isMach (le2 (objBs 76 1 ts 0) (objBs 76 1 ts 1)) = true from by simp [objBs, le2, isMach], show cofS true = ⟨#[99, 111, 102, 102]⟩ from rfl]
  rintro e w4 ⟨rfl, k4, hk4, hrd4, hkp4⟩
  have hb4 : Below w.heap.size w w4 := hb3'.trans (hkp4.below hbel.size hb3'.size)
  clear hkp4 hrd4
  go_wp2
  go_ret
  exact ⟨rfl, hb4⟩

set_option maxHeartbeats 800000 in
set_option maxRecDepth 100000 in
theorem obj_false_1 (M mo mc bm g o L cap s : Nat) (ts : Nat → Int) (w : World) (P : PeW w.heap.size M mo mc bm w) (hg : g < w.heap.size) (hL : 0 < L) (hL2 : L ≤ 4096) (ht : Bytes w g o L ts) (hs : s ≤ 255) (h5 : s % 5 = 1) :
    Calls Ybaf.prog 7 #[.int .u8 s, .bool false, .slice (some ⟨g, o, none⟩) L cap] w fun e w' => e = .returned (.bool true) ∧ Below w.heap.size w w' := by
  have h5' : (s : Int) % 5 = 1 := by omega
  obtain ⟨wB, wC, O⟩ := obj_world (w.alloc objTab) L g o cap 192 1 ts hL hL2 (by omega) (by omega) (ht.below ((Below.refl w.heap.size _).alloc (Nat.le_refl _) _) hg) (by simp; omega)
  rw [show (w.alloc objTab).heap.size = w.heap.size + 1 from by simp] at O
  have hmk := O.made
  have c0 := O.c0
  have c1 := O.c1
  have f0 := O.f0
  have f1 := O.f1
  have hcp := O.copied
  have hbel : Below w.heap.size w wC := ((Below.refl _ _).alloc (Nat.le_refl _) _).trans (O.bel.mono (by omega))
  have HS : Hid (wC.heap.size = w.heap.size + 1 + 1) := O.size
  have h5n : Hid (s % 5 = 1) := h5
  clear h5
  go_enter Ybaf.func7, Ybaf.ntmps7
  go_wp2_with fail
  refine (new_any 55 ⟨wC.heap.size, 0, none⟩ (2 + (L : Int)) _ (by omega) (by omega)).mono ?_
  rintro e w3 ⟨rfl, hw3⟩
  obtain ⟨hrd, hb3⟩ := obj_rd (w := w) O.row (by have := HS.out; omega) (by omega) (by omega) hw3
  rw [show (wC.alloc (.cells #[.slice (some ⟨w.heap.size + 1, 0, none⟩) (2 + L) (2 + L), .int .i64 0, .bool false] 57)).heap.size = wC.heap.size + 1 from by simp]
  have hb3' : Below w.heap.size w w3 := hbel.trans (hb3.mono hbel.size)
  have hP3 := P.below hb3'
  clear hw3
  go_wp2_with fail
  refine (loc_obj w.heap.size M mo mc bm (wC.heap.size + 1) wC.heap.size (w.heap.size + 1) 0 (2 + L) (2 + L) 0 (objBs 192 1 ts) w3 hP3 hrd (by omega) hbel.size (by omega) (isMZ_no (by omega))).mono ?_
  rw [show isMach (le2 (objBs 192 1 ts 0) (objBs 192 1 ts 1)) = true from by simp [objBs, le2, isMach], show cofS true = ⟨#[99, 111, 102, 102]⟩ from rfl]
  rintro e w4 ⟨rfl, k4, hk4, hrd4, hkp4⟩
  have hb4 : Below w.heap.size w w4 := hb3'.trans (hkp4.below hbel.size hb3'.size)
  clear hkp4 hrd4
  go_wp2
  go_ret
  exact ⟨rfl, hb4⟩

set_option maxHeartbeats 800000 in
set_option maxRecDepth 100000 in
theorem obj_false_2 (M mo mc bm g o L cap s : Nat) (ts : Nat → Int) (w : World) (P : PeW w.heap.size M mo mc bm w) (hg : g < w.heap.size) (hL : 0 < L) (hL2 : L ≤ 4096) (ht : Bytes w g o L ts) (hs : s ≤ 255) (h5 : s % 5 = 2) :
    Calls Ybaf.prog 7 #[.int .u8 s, .bool false, .slice (some ⟨g, o, none⟩) L cap] w fun e w' => e = .returned (.bool true) ∧ Below w.heap.size w w' := by
  have h5' : (s : Int) % 5 = 2 := by omega
  obtain ⟨wB, wC, O⟩ := obj_world (w.alloc objTab) L g o cap 196 1 ts hL hL2 (by omega) (by omega) (ht.below ((Below.refl w.heap.size _).alloc (Nat.le_refl _) _) hg) (by simp; omega)
  rw [show (w.alloc objTab).heap.size = w.heap.size + 1 from by simp] at O
  have hmk := O.made
  have c0 := O.c0
  have c1 := O.c1
  have f0 := O.f0
  have f1 := O.f1
  have hcp := O.copied
  have hbel : Below w.heap.size w wC := ((Below.refl _ _).alloc (Nat.le_refl _) _).trans (O.bel.mono (by omega))
  have HS : Hid (wC.heap.size = w.heap.size + 1 + 1) := O.size
  have h5n : Hid (s % 5 = 2) := h5
  clear h5
  go_enter Ybaf.func7, Ybaf.ntmps7
  go_wp2_with fail
  refine (new_any 55 ⟨wC.heap.size, 0, none⟩ (2 + (L : Int)) _ (by omega) (by omega)).mono ?_
  rintro e w3 ⟨rfl, hw3⟩
  obtain ⟨hrd, hb3⟩ := obj_rd (w := w) O.row (by have := HS.out; omega) (by omega) (by omega) hw3
  rw [show (wC.alloc (.cells #[.slice (some ⟨w.heap.size + 1, 0, none⟩) (2 + L) (2 + L), .int .i64 0, .bool false] 57)).heap.size = wC.heap.size + 1 from by simp]
  have hb3' : Below w.heap.size w w3 := hbel.trans (hb3.mono hbel.size)
  have hP3 := P.below hb3'
  clear hw3
  go_wp2_with fail
  refine (loc_obj w.heap.size M mo mc bm (wC.heap.size + 1) wC.heap.size (w.heap.size + 1) 0 (2 + L) (2 + L) 0 (objBs 196 1 ts) w3 hP3 hrd (by omega) hbel.size (by omega) (isMZ_no (by omega))).mono ?_
  rw [show isMach (le2 (objBs 196 1 ts 0) (objBs 196 1 ts 1)) = true from by simp [objBs, le2, isMach], show cofS true = ⟨#[99, 111, 102, 102]⟩ from rfl]
  rintro e w4 ⟨rfl, k4, hk4, hrd4, hkp4⟩
  have hb4 : Below w.heap.size w w4 := hb3'.trans (hkp4.below hbel.size hb3'.size)
  clear hkp4 hrd4
  go_wp2
  go_ret
  exact ⟨rfl, hb4⟩

set_option maxHeartbeats 800000 in
set_option maxRecDepth 100000 in
theorem obj_false_3 (M mo mc bm g o L cap s : Nat) (ts : Nat → Int) (w : World) (P : PeW w.heap.size M mo mc bm w) (hg : g < w.heap.size) (hL : 0 < L) (hL2 : L ≤ 4096) (ht : Bytes w g o L ts) (hs : s ≤ 255) (h5 : s % 5 = 3) :
    Calls Ybaf.prog 7 #[.int .u8 s, .bool false, .slice (some ⟨g, o, none⟩) L cap] w fun e w' => e = .returned (.bool true) ∧ Below w.heap.size w w' := by
  have h5' : (s : Int) % 5 = 3 := by omega
  obtain ⟨wB, wC, O⟩ := obj_world (w.alloc objTab) L g o cap 100 134 ts hL hL2 (by omega) (by omega) (ht.below ((Below.refl w.heap.size _).alloc (Nat.le_refl _) _) hg) (by simp; omega)
  rw [show (w.alloc objTab).heap.size = w.heap.size + 1 from by simp] at O
  have hmk := O.made
  have c0 := O.c0
  have c1 := O.c1
  have f0 := O.f0
  have f1 := O.f1
  have hcp := O.copied
  have hbel : Below w.heap.size w wC := ((Below.refl _ _).alloc (Nat.le_refl _) _).trans (O.bel.mono (by omega))
  have HS : Hid (wC.heap.size = w.heap.size + 1 + 1) := O.size
  have h5n : Hid (s % 5 = 3) := h5
  clear h5
  go_enter Ybaf.func7, Ybaf.ntmps7
  go_wp2_with fail
  refine (new_any 55 ⟨wC.heap.size, 0, none⟩ (2 + (L : Int)) _ (by omega) (by omega)).mono ?_
  rintro e w3 ⟨rfl, hw3⟩
  obtain ⟨hrd, hb3⟩ := obj_rd (w := w) O.row (by have := HS.out; omega) (by omega) (by omega) hw3
  rw [show (wC.alloc (.cells #[.slice (some ⟨w.heap.size + 1, 0, none⟩) (2 + L) (2 + L), .int .i64 0, .bool false] 57)).heap.size = wC.heap.size + 1 from by simp]
  have hb3' : Below w.heap.size w w3 := hbel.trans (hb3.mono hbel.size)
  have hP3 := P.below hb3'
  clear hw3
  go_wp2_with fail
  refine (loc_obj w.heap.size M mo mc bm (wC.heap.size + 1) wC.heap.size (w.heap.size + 1) 0 (2 + L) (2 + L) 0 (objBs 100 134 ts) w3 hP3 hrd (by omega) hbel.size (by omega) (isMZ_no (by omega))).mono ?_
  rw [show isMach (le2 (objBs 100 134 ts 0) (objBs 100 134 ts 1)) = true from by simp [objBs, le2, isMach], show cofS true = ⟨#[99, 111, 102, 102]⟩ from rfl]
  rintro e w4 ⟨rfl, k4, hk4, hrd4, hkp4⟩
  have hb4 : Below w.heap.size w w4 := hb3'.trans (hkp4.below hbel.size hb3'.size)
  clear hkp4 hrd4
  go_wp2
  go_ret
  exact ⟨rfl, hb4⟩

set_option maxHeartbeats 800000 in
set_option maxRecDepth 100000 in
theorem obj_false_4 (M mo mc bm g o L cap s : Nat) (ts : Nat → Int) (w : World) (P : PeW w.heap.size M mo mc bm w) (hg : g < w.heap.size) (hL : 0 < L) (hL2 : L ≤ 4096) (ht : Bytes w g o L ts) (hs : s ≤ 255) (h5 : s % 5 = 4) :
    Calls Ybaf.prog 7 #[.int .u8 s, .bool false, .slice (some ⟨g, o, none⟩) L cap] w fun e w' => e = .returned (.bool true) ∧ Below w.heap.size w w' := by
  have h5' : (s : Int) % 5 = 4 := by omega
  obtain ⟨wB, wC, O⟩ := obj_world (w.alloc objTab) L g o cap 100 170 ts hL hL2 (by omega) (by omega) (ht.below ((Below.refl w.heap.size _).alloc (Nat.le_refl _) _) hg) (by simp; omega)
  rw [show (w.alloc objTab).heap.size = w.heap.size + 1 from by simp] at O
  have hmk := O.made
  have c0 := O.c0
  have c1 := O.c1
  have f0 := O.f0
  have f1 := O.f1
  have hcp := O.copied
  have hbel : Below w.heap.size w wC := ((Below.refl _ _).alloc (Nat.le_refl _) _).trans (O.bel.mono (by omega))
  have HS : Hid (wC.heap.size = w.heap.size + 1 + 1) := O.size
  have h5n : Hid (s % 5 = 4) := h5
  clear h5
  go_enter Ybaf.func7, Ybaf.ntmps7
  go_wp2_with fail
  refine (new_any 55 ⟨wC.heap.size, 0, none⟩ (2 + (L : Int)) _ (by omega) (by omega)).mono ?_
  rintro e w3 ⟨rfl, hw3⟩
  obtain ⟨hrd, hb3⟩ := obj_rd (w := w) O.row (by have := HS.out; omega) (by omega) (by omega) hw3
  rw [show (wC.alloc (.cells #[.slice (some ⟨w.heap.size + 1, 0, none⟩) (2 + L) (2 + L), .int .i64 0, .bool false] 57)).heap.size = wC.heap.size + 1 from by simp]
  have hb3' : Below w.heap.size w w3 := hbel.trans (hb3.mono hbel.size)
  have hP3 := P.below hb3'
  clear hw3
  go_wp2_with fail
  refine (loc_obj w.heap.size M mo mc bm (wC.heap.size + 1) wC.heap.size (w.heap.size + 1) 0 (2 + L) (2 + L) 0 (objBs 100 170 ts) w3 hP3 hrd (by omega) hbel.size (by omega) (isMZ_no (by omega))).mono ?_
  rw [show isMach (le2 (objBs 100 170 ts 0) (objBs 100 170 ts 1)) = true from by simp [objBs, le2, isMach], show cofS true = ⟨#[99, 111, 102, 102]⟩ from rfl]
  rintro e w4 ⟨rfl, k4, hk4, hrd4, hkp4⟩
  have hb4 : Below w.heap.size w w4 := hb3'.trans (hkp4.below hbel.size hb3'.size)
  clear hkp4 hrd4
  go_wp2
  go_ret
  exact ⟨rfl, hb4⟩

set_option maxHeartbeats 800000 in
set_option maxRecDepth 100000 in
theorem obj_true_0 (M mo mc bm g o L cap s : Nat) (ts : Nat → Int) (w : World) (P : PeW w.heap.size M mo mc bm w) (hg : g < w.heap.size) (hL : 0 < L) (hL2 : L ≤ 4096) (ht : Bytes w g o L ts) (hs : s ≤ 255) (h5 : s % 5 = 0) :
    Calls Ybaf.prog 7 #[.int .u8 s, .bool true, .slice (some ⟨g, o, none⟩) L cap] w fun e w' => e = .returned (.bool true) ∧ Below w.heap.size w w' := by
  have h5' : (s : Int) % 5 = 0 := by omega
  have hx : bits .xor .u16 332 256 = 76 := by decide +kernel
  obtain ⟨wB, wC, O⟩ := obj_world (w.alloc objTab) L g o cap 76 0 ts hL hL2 (by omega) (by omega) (ht.below ((Below.refl w.heap.size _).alloc (Nat.le_refl _) _) hg) (by simp; omega)
  rw [show (w.alloc objTab).heap.size = w.heap.size + 1 from by simp] at O
  have hmk := O.made
  have c0 := O.c0
  have c1 := O.c1
  have f0 := O.f0
  have f1 := O.f1
  have hcp := O.copied
  have hbel : Below w.heap.size w wC := ((Below.refl _ _).alloc (Nat.le_refl _) _).trans (O.bel.mono (by omega))
  have HS : Hid (wC.heap.size = w.heap.size + 1 + 1) := O.size
  have h5n : Hid (s % 5 = 0) := h5
  clear h5
  go_enter Ybaf.func7, Ybaf.ntmps7
  go_wp2_with fail
  refine (new_any 55 ⟨wC.heap.size, 0, none⟩ (2 + (L : Int)) _ (by omega) (by omega)).mono ?_
  rintro e w3 ⟨rfl, hw3⟩
  obtain ⟨hrd, hb3⟩ := obj_rd (w := w) O.row (by have := HS.out; omega) (by omega) (by omega) hw3
  rw [show (wC.alloc (.cells #[.slice (some ⟨w.heap.size + 1, 0, none⟩) (2 + L) (2 + L), .int .i64 0, .bool false] 57)).heap.size = wC.heap.size + 1 from by simp]
  have hb3' : Below w.heap.size w w3 := hbel.trans (hb3.mono hbel.size)
  have hP3 := P.below hb3'
  clear hw3
  go_wp2_with fail
  refine (loc_obj w.heap.size M mo mc bm (wC.heap.size + 1) wC.heap.size (w.heap.size + 1) 0 (2 + L) (2 + L) 0 (objBs 76 0 ts) w3 hP3 hrd (by omega) hbel.size (by omega) (isMZ_no (by omega))).mono ?_
  rw [show isMach (le2 (objBs 76 0 ts 0) (objBs 76 0 ts 1)) = false from by simp [objBs, le2, isMach], show cofS false = ⟨#[]⟩ from rfl]
  rintro e w4 ⟨rfl, k4, hk4, hrd4, hkp4⟩
  have hb4 : Below w.heap.size w w4 := hb3'.trans (hkp4.below hbel.size hb3'.size)
  clear hkp4 hrd4
  go_wp2
  go_ret
  exact ⟨rfl, hb4⟩

set_option maxHeartbeats 800000 in
set_option maxRecDepth 100000 in
theorem obj_true_1 (M mo mc bm g o L cap s : Nat) (ts : Nat → Int) (w : World) (P : PeW w.heap.size M mo mc bm w) (hg : g < w.heap.size) (hL : 0 < L) (hL2 : L ≤ 4096) (ht : Bytes w g o L ts) (hs : s ≤ 255) (h5 : s % 5 = 1) :
    Calls Ybaf.prog 7 #[.int .u8 s, .bool true, .slice (some ⟨g, o, none⟩) L cap] w fun e w' => e = .returned (.bool true) ∧ Below w.heap.size w w' := by
  have h5' : (s : Int) % 5 = 1 := by omega
  have hx : bits .xor .u16 448 256 = 192 := by decide +kernel
  obtain ⟨wB, wC, O⟩ := obj_world (w.alloc objTab) L g o cap 192 0 ts hL hL2 (by omega) (by omega) (ht.below ((Below.refl w.heap.size _).alloc (Nat.le_refl _) _) hg) (by simp; omega)
  rw [show (w.alloc objTab).heap.size = w.heap.size + 1 from by simp] at O
  have hmk := O.made
  have c0 := O.c0
  have c1 := O.c1
  have f0 := O.f0
  have f1 := O.f1
  have hcp := O.copied
  have hbel : Below w.heap.size w wC := ((Below.refl _ _).alloc (Nat.le_refl _) _).trans (O.bel.mono (by omega))
  have HS : Hid (wC.heap.size = w.heap.size + 1 + 1) := O.size
  have h5n : Hid (s % 5 = 1) := h5
  clear h5
  go_enter Ybaf.func7, Ybaf.ntmps7
  go_wp2_with fail
  refine (new_any 55 ⟨wC.heap.size, 0, none⟩ (2 + (L : Int)) _ (by omega) (by omega)).mono ?_
  rintro e w3 ⟨rfl, hw3⟩
  obtain ⟨hrd, hb3⟩ := obj_rd (w := w) O.row (by have := HS.out; omega) (by omega) (by omega) hw3
  rw [show (wC.alloc (.cells #[.slice (some ⟨w.heap.size + 1, 0, none⟩) (2 + L) (2 + L), .int .i64 0, .bool false] 57)).heap.size = wC.heap.size + 1 from by simp]
  have hb3' : Below w.heap.size w w3 := hbel.trans (hb3.mono hbel.size)
  have hP3 := P.below hb3'
  clear hw3
  go_wp2_with fail
  refine (loc_obj w.heap.size M mo mc bm (wC.heap.size + 1) wC.heap.size (w.heap.size + 1) 0 (2 + L) (2 + L) 0 (objBs 192 0 ts) w3 hP3 hrd (by omega) hbel.size (by omega) (isMZ_no (by omega))).mono ?_
  rw [show isMach (le2 (objBs 192 0 ts 0) (objBs 192 0 ts 1)) = false from by simp [objBs, le2, isMach], show cofS false = ⟨#[]⟩ from rfl]
  rintro e w4 ⟨rfl, k4, hk4, hrd4, hkp4⟩
  have hb4 : Below w.heap.size w w4 := hb3'.trans (hkp4.below hbel.size hb3'.size)
  clear hkp4 hrd4
  go_wp2
  go_ret
  exact ⟨rfl, hb4⟩

set_option maxHeartbeats 800000 in
set_option maxRecDepth 100000 in
theorem obj_true_2 (M mo mc bm g o L cap s : Nat) (ts : Nat → Int) (w : World) (P : PeW w.heap.size M mo mc bm w) (hg : g < w.heap.size) (hL : 0 < L) (hL2 : L ≤ 4096) (ht : Bytes w g o L ts) (hs : s ≤ 255) (h5 : s % 5 = 2) :
    Calls Ybaf.prog 7 #[.int .u8 s, .bool true, .slice (some ⟨g, o, none⟩) L cap] w fun e w' => e = .returned (.bool true) ∧ Below w.heap.size w w' := by
  have h5' : (s : Int) % 5 = 2 := by omega
  have hx : bits .xor .u16 452 256 = 196 := by decide +kernel
  obtain ⟨wB, wC, O⟩ := obj_world (w.alloc objTab) L g o cap 196 0 ts hL hL2 (by omega) (by omega) (ht.below ((Below.refl w.heap.size _).alloc (Nat.le_refl _) _) hg) (by simp; omega)
  rw [show (w.alloc objTab).heap.size = w.heap.size + 1 from by simp] at O
  have hmk := O.made
  have c0 := O.c0
  have c1 := O.c1
  have f0 := O.f0
  have f1 := O.f1
  have hcp := O.copied
  have hbel : Below w.heap.size w wC := ((Below.refl _ _).alloc (Nat.le_refl _) _).trans (O.bel.mono (by omega))
  have HS : Hid (wC.heap.size = w.heap.size + 1 + 1) := O.size
  have h5n : Hid (s % 5 = 2) := h5
  clear h5
  go_enter Ybaf.func7, Ybaf.ntmps7
  go_wp2_with fail
  refine (new_any 55 ⟨wC.heap.size, 0, none⟩ (2 + (L : Int)) _ (by omega) (by omega)).mono ?_
  rintro e w3 ⟨rfl, hw3⟩
  obtain ⟨hrd, hb3⟩ := obj_rd (w := w) O.row (by have := HS.out; omega) (by omega) (by omega) hw3
  rw [show (wC.alloc (.cells #[.slice (some ⟨w.heap.size + 1, 0, none⟩) (2 + L) (2 + L), .int .i64 0, .bool false] 57)).heap.size = wC.heap.size + 1 from by simp]
  have hb3' : Below w.heap.size w w3 := hbel.trans (hb3.mono hbel.size)
  have hP3 := P.below hb3'
  clear hw3
  go_wp2_with fail
  refine (loc_obj w.heap.size M mo mc bm (wC.heap.size + 1) wC.heap.size (w.heap.size + 1) 0 (2 + L) (2 + L) 0 (objBs 196 0 ts) w3 hP3 hrd (by omega) hbel.size (by omega) (isMZ_no (by omega))).mono ?_
  rw [show isMach (le2 (objBs 196 0 ts 0) (objBs 196 0 ts 1)) = false from by simp [objBs, le2, isMach], show cofS false = ⟨#[]⟩ from rfl]
  rintro e w4 ⟨rfl, k4, hk4, hrd4, hkp4⟩
  have hb4 : Below w.heap.size w w4 := hb3'.trans (hkp4.below hbel.size hb3'.size)
  clear hkp4 hrd4
  go_wp2
  go_ret
  exact ⟨rfl, hb4⟩

set_option maxHeartbeats 800000 in
set_option maxRecDepth 100000 in
theorem obj_true_3 (M mo mc bm g o L cap s : Nat) (ts : Nat → Int) (w : World) (P : PeW w.heap.size M mo mc bm w) (hg : g < w.heap.size) (hL : 0 < L) (hL2 : L ≤ 4096) (ht : Bytes w g o L ts) (hs : s ≤ 255) (h5 : s % 5 = 3) :
    Calls Ybaf.prog 7 #[.int .u8 s, .bool true, .slice (some ⟨g, o, none⟩) L cap] w fun e w' => e = .returned (.bool true) ∧ Below w.heap.size w w' := by
  have h5' : (s : Int) % 5 = 3 := by omega
  have hx : bits .xor .u16 34404 256 = 34660 := by decide +kernel
  obtain ⟨wB, wC, O⟩ := obj_world (w.alloc objTab) L g o cap 100 135 ts hL hL2 (by omega) (by omega) (ht.below ((Below.refl w.heap.size _).alloc (Nat.le_refl _) _) hg) (by simp; omega)
  rw [show (w.alloc objTab).heap.size = w.heap.size + 1 from by simp] at O
  have hmk := O.made
  have c0 := O.c0
  have c1 := O.c1
  have f0 := O.f0
  have f1 := O.f1
  have hcp := O.copied
  have hbel : Below w.heap.size w wC := ((Below.refl _ _).alloc (Nat.le_refl _) _).trans (O.bel.mono (by omega))
  have HS : Hid (wC.heap.size = w.heap.size + 1 + 1) := O.size
  have h5n : Hid (s % 5 = 3) := h5
  clear h5
  go_enter Ybaf.func7, Ybaf.ntmps7
  go_wp2_with fail
  refine (new_any 55 ⟨wC.heap.size, 0, none⟩ (2 + (L : Int)) _ (by omega) (by omega)).mono ?_
  rintro e w3 ⟨rfl, hw3⟩
  obtain ⟨hrd, hb3⟩ := obj_rd (w := w) O.row (by have := HS.out; omega) (by omega) (by omega) hw3
  rw [show (wC.alloc (.cells #[.slice (some ⟨w.heap.size + 1, 0, none⟩) (2 + L) (2 + L), .int .i64 0, .bool false] 57)).heap.size = wC.heap.size + 1 from by simp]
  have hb3' : Below w.heap.size w w3 := hbel.trans (hb3.mono hbel.size)
  have hP3 := P.below hb3'
  clear hw3
  go_wp2_with fail
  refine (loc_obj w.heap.size M mo mc bm (wC.heap.size + 1) wC.heap.size (w.heap.size + 1) 0 (2 + L) (2 + L) 0 (objBs 100 135 ts) w3 hP3 hrd (by omega) hbel.size (by omega) (isMZ_no (by omega))).mono ?_
  rw [show isMach (le2 (objBs 100 135 ts 0) (objBs 100 135 ts 1)) = false from by simp [objBs, le2, isMach], show cofS false = ⟨#[]⟩ from rfl]
  rintro e w4 ⟨rfl, k4, hk4, hrd4, hkp4⟩
  have hb4 : Below w.heap.size w w4 := hb3'.trans (hkp4.below hbel.size hb3'.size)
  clear hkp4 hrd4
  go_wp2
  go_ret
  exact ⟨rfl, hb4⟩

set_option maxHeartbeats 800000 in
set_option maxRecDepth 100000 in
theorem obj_true_4 (M mo mc bm g o L cap s : Nat) (ts : Nat → Int) (w : World) (P : PeW w.heap.size M mo mc bm w) (hg : g < w.heap.size) (hL : 0 < L) (hL2 : L ≤ 4096) (ht : Bytes w g o L ts) (hs : s ≤ 255) (h5 : s % 5 = 4) :
    Calls Ybaf.prog 7 #[.int .u8 s, .bool true, .slice (some ⟨g, o, none⟩) L cap] w fun e w' => e = .returned (.bool true) ∧ Below w.heap.size w w' := by
  have h5' : (s : Int) % 5 = 4 := by omega
  have hx : bits .xor .u16 43620 256 = 43876 := by decide +kernel
  obtain ⟨wB, wC, O⟩ := obj_world (w.alloc objTab) L g o cap 100 171 ts hL hL2 (by omega) (by omega) (ht.below ((Below.refl w.heap.size _).alloc (Nat.le_refl _) _) hg) (by simp; omega)
  rw [show (w.alloc objTab).heap.size = w.heap.size + 1 from by simp] at O
  have hmk := O.made
  have c0 := O.c0
  have c1 := O.c1
  have f0 := O.f0
  have f1 := O.f1
  have hcp := O.copied
  have hbel : Below w.heap.size w wC := ((Below.refl _ _).alloc (Nat.le_refl _) _).trans (O.bel.mono (by omega))
  have HS : Hid (wC.heap.size = w.heap.size + 1 + 1) := O.size
  have h5n : Hid (s % 5 = 4) := h5
  clear h5
  go_enter Ybaf.func7, Ybaf.ntmps7
  go_wp2_with fail
  refine (new_any 55 ⟨wC.heap.size, 0, none⟩ (2 + (L : Int)) _ (by omega) (by omega)).mono ?_
  rintro e w3 ⟨rfl, hw3⟩
  obtain ⟨hrd, hb3⟩ := obj_rd (w := w) O.row (by have := HS.out; omega) (by omega) (by omega) hw3
  rw [show (wC.alloc (.cells #[.slice (some ⟨w.heap.size + 1, 0, none⟩) (2 + L) (2 + L), .int .i64 0, .bool false] 57)).heap.size = wC.heap.size + 1 from by simp]
  have hb3' : Below w.heap.size w w3 := hbel.trans (hb3.mono hbel.size)
  have hP3 := P.below hb3'
  clear hw3
  go_wp2_with fail
  refine (loc_obj w.heap.size M mo mc bm (wC.heap.size + 1) wC.heap.size (w.heap.size + 1) 0 (2 + L) (2 + L) 0 (objBs 100 171 ts) w3 hP3 hrd (by omega) hbel.size (by omega) (isMZ_no (by omega))).mono ?_
  rw [show isMach (le2 (objBs 100 171 ts 0) (objBs 100 171 ts 1)) = false from by simp [objBs, le2, isMach], show cofS false = ⟨#[]⟩ from rfl]
  rintro e w4 ⟨rfl, k4, hk4, hrd4, hkp4⟩
  have hb4 : Below w.heap.size w w4 := hb3'.trans (hkp4.below hbel.size hb3'.size)
  clear hkp4 hrd4
  go_wp2
  go_ret
  exact ⟨rfl, hb4⟩

end Go.Proofs.YbulkblxcFmt
