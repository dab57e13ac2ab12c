import Derived.Test.YbulkblxcFmtImg
namespace Go.Proofs.YbulkblxcFmt
open Go.RowKit
set_option linter.unusedVariables false

set_option maxHeartbeats 1600000 in
set_option maxRecDepth 100000 in
theorem img_true_z (M mo mc bm a c : Nat) (sp : Option Addr) (cap : Nat) (w : World) (P : PeW w.heap.size M mo mc bm w) (ha : a ≤ 255) (hc : c ≤ 255) (HC : Hid (c % 8 = 0)) :
    Calls Ybaf.prog 6 #[.slice sp 0 cap, .int .u8 a, .bool true, .int .u8 c] w fun e w' => e = .returned (.bool true) ∧ Below w.heap.size w w' := by
  obtain ⟨wB, hmk0, BW⟩ := buf_start w (64 + a + 4) (by omega)
  have hmk := hmk0 .i64
  rw [show ((64 + a + 4 : Nat) : Int) = 64 + (a : Int) + 4 from by omega] at hmk
  clear hmk0
  have hp : ∀ j : Nat, 0 ≤ (fun _ => 0 : Nat → Int) j ∧ (fun _ => 0 : Nat → Int) j ≤ 255 := fun _ => by simp
  have c0 := BW.cell 0 (by omega)
  have c1 := BW.cell 1 (by omega)
  have c60 := BW.cell 60 (by omega)
  have c61 := BW.cell 61 (by omega)
  have c62 := BW.cell 62 (by omega)
  have c63 := BW.cell 63 (by omega)
  have d0 := BW.cell (64 + a) (by omega)
  have d1 := BW.cell (64 + a + 1) (by omega)
  have d2 := BW.cell (64 + a + 2) (by omega)
  have d3 := BW.cell (64 + a + 3) (by omega)
  have hf := BW.free
  have t0 : (64 + (a : Int)).toNat = 64 + a := by omega
  have t1 : (64 + (a : Int) + 1).toNat = 64 + a + 1 := by omega
  have t2 : (64 + (a : Int) + 2).toNat = 64 + a + 2 := by omega
  have t3 : (64 + (a : Int) + 3).toNat = 64 + a + 3 := by omega
  have hr : 0 ≤ (c : Int) % 8 ∧ (c : Int) % 8 ≤ 7 := by omega
  have hc8 : (c : Int) % 8 = 0 := by have := HC.out; omega
  go_enter Ybaf.func6, Ybaf.ntmps6
  go_wp2_with fail
  refine (new_any 55 ⟨wB.heap.size, 0, none⟩ (((64 + a + 4) : Nat) : Int) _ (by omega) (by omega)).mono ?_
  rintro e w3 ⟨rfl, hw3⟩
  have BF : BufW w w.heap.size (64 + a + 4) (imgBs (fun _ => 0) a 0) _ := (((((((((BW.put 0 77).put 1 90).put 60 ((64 + (a : Int)) % 256)).put 61 ((64 + (a : Int)) / 256)).put 62 0).put 63 0).put (64 + a) 80).put (64 + a + 1) 69).put (64 + a + 2) 0).put (64 + a + 3) 0
  have hby := BF.bytes (n := (64 + a + 4)) (by omega) (fun j _ => imgBs_bd ha (by omega) hp j)
  obtain ⟨hrd, hb3⟩ := img_rd (Z := wB.heap.size) hby (by simp) (by rw [BW.size]; omega) (by omega) (by omega) rfl hw3
  have hbF : Below w.heap.size w w3 := BF.bel.trans (hb3.mono (by rw [BW.size]; omega))
  have hCB : w.heap.size ≤ wB.heap.size := by rw [BW.size]; omega
  have hP3 := P.below hbF
  clear hw3 BF hby hb3
  go_wp2_with fail
  refine (loc_mz w.heap.size M mo mc bm (wB.heap.size + 1) wB.heap.size w.heap.size 0 (64 + a + 4) (64 + a + 4) 0 (imgBs (fun _ => 0) a 0) w3 hP3 hrd (by omega) hCB (imgBs_mz (by omega))).mono ?_
  rw [show (decide (64 ≤ (64 + a + 4)) && isPE (64 + a + 4) (imgBs (fun _ => 0) a 0)) = true from img_yes ha, show peS true = ⟨#[112, 101]⟩ from rfl, show peN true (lfa (imgBs (fun _ => 0) a 0)) = 64 + (a : Int) + 4 from by rw [imgBs_lfa ha]; rfl]
  rintro e w4 ⟨rfl, k4, hk4, hrd4, hkp4⟩
  have hb4 : Below w.heap.size w w4 := hbF.trans (hkp4.below hCB hbF.size)
  clear hkp4 hrd4 hP3 hrd
  go_wp2
  go_ret
  exact ⟨rfl, hb4⟩

set_option maxHeartbeats 1600000 in
set_option maxRecDepth 100000 in
theorem img_true_n (M mo mc bm a c : Nat) (sp : Option Addr) (cap : Nat) (w : World) (P : PeW w.heap.size M mo mc bm w) (ha : a ≤ 255) (hc : c ≤ 255) (HC : Hid (0 < c % 8)) :
    Calls Ybaf.prog 6 #[.slice sp 0 cap, .int .u8 a, .bool true, .int .u8 c] w fun e w' => e = .returned (.bool true) ∧ Below w.heap.size w w' := by
  obtain ⟨wB, hmk0, BW⟩ := buf_start w (64 + a + 4) (by omega)
  have hmk := hmk0 .i64
  rw [show ((64 + a + 4 : Nat) : Int) = 64 + (a : Int) + 4 from by omega] at hmk
  clear hmk0
  have hp : ∀ j : Nat, 0 ≤ (fun _ => 0 : Nat → Int) j ∧ (fun _ => 0 : Nat → Int) j ≤ 255 := fun _ => by simp
  have c0 := BW.cell 0 (by omega)
  have c1 := BW.cell 1 (by omega)
  have c60 := BW.cell 60 (by omega)
  have c61 := BW.cell 61 (by omega)
  have c62 := BW.cell 62 (by omega)
  have c63 := BW.cell 63 (by omega)
  have d0 := BW.cell (64 + a) (by omega)
  have d1 := BW.cell (64 + a + 1) (by omega)
  have d2 := BW.cell (64 + a + 2) (by omega)
  have d3 := BW.cell (64 + a + 3) (by omega)
  have hf := BW.free
  have t0 : (64 + (a : Int)).toNat = 64 + a := by omega
  have t1 : (64 + (a : Int) + 1).toNat = 64 + a + 1 := by omega
  have t2 : (64 + (a : Int) + 2).toNat = 64 + a + 2 := by omega
  have t3 : (64 + (a : Int) + 3).toNat = 64 + a + 3 := by omega
  have hr : 0 ≤ (c : Int) % 8 ∧ (c : Int) % 8 ≤ 7 := by omega
  have hc8 : ((c : Int) % 8 == 0) = false := beq_eq_false_iff_ne.2 (by have := HC.out; omega)
  go_enter Ybaf.func6, Ybaf.ntmps6
  go_wp2_with fail
  refine (new_any 55 ⟨wB.heap.size, 0, none⟩ (((64 + a + 4 - c % 8) : Nat) : Int) _ (by omega) (by omega)).mono ?_
  rintro e w3 ⟨rfl, hw3⟩
  have BF : BufW w w.heap.size (64 + a + 4) (imgBs (fun _ => 0) a 0) _ := (((((((((BW.put 0 77).put 1 90).put 60 ((64 + (a : Int)) % 256)).put 61 ((64 + (a : Int)) / 256)).put 62 0).put 63 0).put (64 + a) 80).put (64 + a + 1) 69).put (64 + a + 2) 0).put (64 + a + 3) 0
  have hby := BF.bytes (n := (64 + a + 4 - c % 8)) (by omega) (fun j _ => imgBs_bd ha (by omega) hp j)
  obtain ⟨hrd, hb3⟩ := img_rd (Z := wB.heap.size) hby (by simp) (by rw [BW.size]; omega) (by omega) (by omega) rfl hw3
  have hbF : Below w.heap.size w w3 := BF.bel.trans (hb3.mono (by rw [BW.size]; omega))
  have hCB : w.heap.size ≤ wB.heap.size := by rw [BW.size]; omega
  have hP3 := P.below hbF
  clear hw3 BF hby hb3
  go_wp2_with fail
  refine (loc_mz w.heap.size M mo mc bm (wB.heap.size + 1) wB.heap.size w.heap.size 0 (64 + a + 4 - c % 8) (64 + a + 4) 0 (imgBs (fun _ => 0) a 0) w3 hP3 hrd (by omega) hCB (imgBs_mz (by omega))).mono ?_
  rw [show (decide (64 ≤ (64 + a + 4 - c % 8)) && isPE (64 + a + 4 - c % 8) (imgBs (fun _ => 0) a 0)) = false from img_cut ha (by have := HC.out; omega), show peS false = ⟨#[109, 122]⟩ from rfl, show peN false (lfa (imgBs (fun _ => 0) a 0)) = 0 from rfl]
  rintro e w4 ⟨rfl, k4, hk4, hrd4, hkp4⟩
  have hb4 : Below w.heap.size w w4 := hbF.trans (hkp4.below hCB hbF.size)
  clear hkp4 hrd4 hP3 hrd
  go_wp2
  go_ret
  exact ⟨rfl, hb4⟩

set_option maxHeartbeats 1600000 in
set_option maxRecDepth 100000 in
theorem img_false_z (M mo mc bm a c : Nat) (sp : Option Addr) (cap : Nat) (w : World) (P : PeW w.heap.size M mo mc bm w) (ha : a ≤ 255) (hc : c ≤ 255) (HC : Hid (c % 8 = 0)) :
    Calls Ybaf.prog 6 #[.slice sp 0 cap, .int .u8 a, .bool false, .int .u8 c] w fun e w' => e = .returned (.bool true) ∧ Below w.heap.size w w' := by
  obtain ⟨wB, hmk0, BW⟩ := buf_start w (64 + a + 4) (by omega)
  have hmk := hmk0 .i64
  rw [show ((64 + a + 4 : Nat) : Int) = 64 + (a : Int) + 4 from by omega] at hmk
  clear hmk0
  have hp : ∀ j : Nat, 0 ≤ (fun _ => 0 : Nat → Int) j ∧ (fun _ => 0 : Nat → Int) j ≤ 255 := fun _ => by simp
  have c0 := BW.cell 0 (by omega)
  have c1 := BW.cell 1 (by omega)
  have c60 := BW.cell 60 (by omega)
  have c61 := BW.cell 61 (by omega)
  have c62 := BW.cell 62 (by omega)
  have c63 := BW.cell 63 (by omega)
  have d0 := BW.cell (64 + a) (by omega)
  have d1 := BW.cell (64 + a + 1) (by omega)
  have d2 := BW.cell (64 + a + 2) (by omega)
  have d3 := BW.cell (64 + a + 3) (by omega)
  have hf := BW.free
  have t0 : (64 + (a : Int)).toNat = 64 + a := by omega
  have t1 : (64 + (a : Int) + 1).toNat = 64 + a + 1 := by omega
  have t2 : (64 + (a : Int) + 2).toNat = 64 + a + 2 := by omega
  have t3 : (64 + (a : Int) + 3).toNat = 64 + a + 3 := by omega
  have hr : 0 ≤ (c : Int) % 8 ∧ (c : Int) % 8 ≤ 7 := by omega
  have hc8 : (c : Int) % 8 = 0 := by have := HC.out; omega
  go_enter Ybaf.func6, Ybaf.ntmps6
  go_wp2_with fail
  refine (new_any 55 ⟨wB.heap.size, 0, none⟩ (((64 + a + 4) : Nat) : Int) _ (by omega) (by omega)).mono ?_
  rintro e w3 ⟨rfl, hw3⟩
  have BF : BufW w w.heap.size (64 + a + 4) (imgBs (fun _ => 0) a 88) _ := (((((((((BW.put 0 77).put 1 90).put 60 ((64 + (a : Int)) % 256)).put 61 ((64 + (a : Int)) / 256)).put 62 0).put 63 0).put (64 + a) 80).put (64 + a + 1) 69).put (64 + a + 2) 0).put (64 + a + 3) 88
  have hby := BF.bytes (n := (64 + a + 4)) (by omega) (fun j _ => imgBs_bd ha (by omega) hp j)
  obtain ⟨hrd, hb3⟩ := img_rd (Z := wB.heap.size) hby (by simp) (by rw [BW.size]; omega) (by omega) (by omega) rfl hw3
  have hbF : Below w.heap.size w w3 := BF.bel.trans (hb3.mono (by rw [BW.size]; omega))
  have hCB : w.heap.size ≤ wB.heap.size := by rw [BW.size]; omega
  have hP3 := P.below hbF
  clear hw3 BF hby hb3
  go_wp2_with fail
  refine (loc_mz w.heap.size M mo mc bm (wB.heap.size + 1) wB.heap.size w.heap.size 0 (64 + a + 4) (64 + a + 4) 0 (imgBs (fun _ => 0) a 88) w3 hP3 hrd (by omega) hCB (imgBs_mz (by omega))).mono ?_
  rw [show (decide (64 ≤ (64 + a + 4)) && isPE (64 + a + 4) (imgBs (fun _ => 0) a 88)) = false from img_sig ha, show peS false = ⟨#[109, 122]⟩ from rfl, show peN false (lfa (imgBs (fun _ => 0) a 88)) = 0 from rfl]
  rintro e w4 ⟨rfl, k4, hk4, hrd4, hkp4⟩
  have hb4 : Below w.heap.size w w4 := hbF.trans (hkp4.below hCB hbF.size)
  clear hkp4 hrd4 hP3 hrd
  go_wp2
  go_ret
  exact ⟨rfl, hb4⟩

set_option maxHeartbeats 1600000 in
set_option maxRecDepth 100000 in
theorem img_false_n (M mo mc bm a c : Nat) (sp : Option Addr) (cap : Nat) (w : World) (P : PeW w.heap.size M mo mc bm w) (ha : a ≤ 255) (hc : c ≤ 255) (HC : Hid (0 < c % 8)) :
    Calls Ybaf.prog 6 #[.slice sp 0 cap, .int .u8 a, .bool false, .int .u8 c] w fun e w' => e = .returned (.bool true) ∧ Below w.heap.size w w' := by
  obtain ⟨wB, hmk0, BW⟩ := buf_start w (64 + a + 4) (by omega)
  have hmk := hmk0 .i64
  rw [show ((64 + a + 4 : Nat) : Int) = 64 + (a : Int) + 4 from by omega] at hmk
  clear hmk0
  have hp : ∀ j : Nat, 0 ≤ (fun _ => 0 : Nat → Int) j ∧ (fun _ => 0 : Nat → Int) j ≤ 255 := fun _ => by simp
  have c0 := BW.cell 0 (by omega)
  have c1 := BW.cell 1 (by omega)
  have c60 := BW.cell 60 (by omega)
  have c61 := BW.cell 61 (by omega)
  have c62 := BW.cell 62 (by omega)
  have c63 := BW.cell 63 (by omega)
  have d0 := BW.cell (64 + a) (by omega)
  have d1 := BW.cell (64 + a + 1) (by omega)
  have d2 := BW.cell (64 + a + 2) (by omega)
  have d3 := BW.cell (64 + a + 3) (by omega)
  have hf := BW.free
  have t0 : (64 + (a : Int)).toNat = 64 + a := by omega
  have t1 : (64 + (a : Int) + 1).toNat = 64 + a + 1 := by omega
  have t2 : (64 + (a : Int) + 2).toNat = 64 + a + 2 := by omega
  have t3 : (64 + (a : Int) + 3).toNat = 64 + a + 3 := by omega
  have hr : 0 ≤ (c : Int) % 8 ∧ (c : Int) % 8 ≤ 7 := by omega
  have hc8 : ((c : Int) % 8 == 0) = false := beq_eq_false_iff_ne.2 (by have := HC.out; omega)
  go_enter Ybaf.func6, Ybaf.ntmps6
  go_wp2_with fail
  refine (new_any 55 ⟨wB.heap.size, 0, none⟩ (((64 + a + 4 - c % 8) : Nat) : Int) _ (by omega) (by omega)).mono ?_
  rintro e w3 ⟨rfl, hw3⟩
  have BF : BufW w w.heap.size (64 + a + 4) (imgBs (fun _ => 0) a 88) _ := (((((((((BW.put 0 77).put 1 90).put 60 ((64 + (a : Int)) % 256)).put 61 ((64 + (a : Int)) / 256)).put 62 0).put 63 0).put (64 + a) 80).put (64 + a + 1) 69).put (64 + a + 2) 0).put (64 + a + 3) 88
  have hby := BF.bytes (n := (64 + a + 4 - c % 8)) (by omega) (fun j _ => imgBs_bd ha (by omega) hp j)
  obtain ⟨hrd, hb3⟩ := img_rd (Z := wB.heap.size) hby (by simp) (by rw [BW.size]; omega) (by omega) (by omega) rfl hw3
  have hbF : Below w.heap.size w w3 := BF.bel.trans (hb3.mono (by rw [BW.size]; omega))
  have hCB : w.heap.size ≤ wB.heap.size := by rw [BW.size]; omega
  have hP3 := P.below hbF
  clear hw3 BF hby hb3
  go_wp2_with fail
  refine (loc_mz w.heap.size M mo mc bm (wB.heap.size + 1) wB.heap.size w.heap.size 0 (64 + a + 4 - c % 8) (64 + a + 4) 0 (imgBs (fun _ => 0) a 88) w3 hP3 hrd (by omega) hCB (imgBs_mz (by omega))).mono ?_
  rw [show (decide (64 ≤ (64 + a + 4 - c % 8)) && isPE (64 + a + 4 - c % 8) (imgBs (fun _ => 0) a 88)) = false from img_sig ha, show peS false = ⟨#[109, 122]⟩ from rfl, show peN false (lfa (imgBs (fun _ => 0) a 88)) = 0 from rfl]
  rintro e w4 ⟨rfl, k4, hk4, hrd4, hkp4⟩
  have hb4 : Below w.heap.size w w4 := hbF.trans (hkp4.below hCB hbF.size)
  clear hkp4 hrd4 hP3 hrd
  go_wp2
  go_ret
  exact ⟨rfl, hb4⟩

end Go.Proofs.YbulkblxcFmt
