import Derived.Test.YbulkblxcFmtImg
namespace Go.Proofs.YbulkblxcFmt
open Go.RowKit
set_option linter.unusedVariables false

/-- The first k bytes of the buffer filled with the padding, over and over. -/
def padBs (ps : Nat → Int) (L k : Nat) : Nat → Int := fun j => if j < k then ps (j % L) else 0

theorem padBs_step (ps : Nat → Int) (L k : Nat) : upd (padBs ps L k) k (ps (k % L)) = padBs ps L (k + 1) := by
  funext j
  unfold upd padBs
  by_cases h : j = k
  · subst h; rw [if_pos rfl, if_pos (by omega)]
  · rw [if_neg h]
    by_cases h2 : j < k
    · rw [if_pos h2, if_pos (by omega)]
    · rw [if_neg h2, if_neg (by omega)]

theorem BufW.zero_pad {w wr : World} {B T L : Nat} {ps : Nat → Int} (h : BufW w B T (fun _ => 0) wr) : BufW w B T (padBs ps L 0) wr := by
  rw [show padBs ps L 0 = fun _ => 0 from by funext j; simp [padBs]]
  exact h

theorem padBs_bd {w : World} {g o L k : Nat} {ps : Nat → Int} (hL : 0 < L) (h : Bytes w g o L ps) (j : Nat) : 0 ≤ padBs ps L k j ∧ padBs ps L k j ≤ 255 := by
  unfold padBs
  split
  · exact h.bd _ (Nat.mod_lt _ hL)
  · omega

set_option maxHeartbeats 3200000 in
set_option maxRecDepth 100000 in
theorem pimg_true_z (M mo mc bm a c g o L cap : Nat) (ps : Nat → Int) (w : World) (P : PeW w.heap.size M mo mc bm w) (ha : a ≤ 255) (hc : c ≤ 255) (HC : Hid (c % 8 = 0)) (hg : g < w.heap.size) (hL : 0 < L) (hL2 : L ≤ 4096) (hpad : Bytes w g o L ps) :
    Calls Ybaf.prog 6 #[.slice (some ⟨g, o, none⟩) L cap, .int .u8 a, .bool true, .int .u8 c] w fun e w' => e = .returned (.bool true) ∧ Below w.heap.size w w' := by
  obtain ⟨wB, hmk0, BW0⟩ := buf_start w (64 + a + 4) (by omega)
  have hmk := hmk0 .i64
  rw [show ((64 + a + 4 : Nat) : Int) = 64 + (a : Int) + 4 from by omega] at hmk
  clear hmk0
  have hp : ∀ j : Nat, 0 ≤ padBs ps L (64 + a + 4) j ∧ padBs ps L (64 + a + 4) j ≤ 255 := padBs_bd hL hpad
  have BWs := BW0.zero_pad (ps := ps) (L := L)
  have hL' : (0 : Int) < (L : Int) := by omega
  go_enter Ybaf.func6, Ybaf.ntmps6
  go_wp2
  go_loopw [12] (fun i wr => ∃ k : Nat, k ≤ 64 + a + 4 ∧ i = .int .i64 k ∧ BufW w w.heap.size (64 + a + 4) (padBs ps L k) wr) (fun i _ => 64 + a + 4 - (intOf i).toNat)
  case atStart => exact ⟨0, Nat.zero_le _, rfl, BWs⟩
  case round =>
    obtain ⟨k, hk, rfl, BW⟩ := hrel
    by_cases hlt : k < 64 + a + 4
    · have hlt' : (k : Int) < 64 + (a : Int) + 4 := by omega
      have hm1 : k % L < L := Nat.mod_lt _ hL
      have hm2 : ((k : Int) % (L : Int)).toNat = k % L := by rw [← Int.natCast_emod, Int.toNat_natCast]
      have hm3 : 0 ≤ (k : Int) % (L : Int) := Int.emod_nonneg _ (by omega)
      have hm4 : (k : Int) % (L : Int) < (L : Int) := Int.emod_lt_of_pos _ hL'
      have e1 := (hpad.below BW.bel hg).at (k % L) hm1
      have e2 := BW.cell k hlt
      have e3 := BW.free k
      have hput := BW.put k (ps (k % L))
      rw [padBs_step] at hput
      go_wp2
      go_roundw
      case rel => exact ⟨k + 1, by omega, by go_num, hput⟩
      case measure => simp [intOf]; omega
    · have hlt' : ¬ (k : Int) < 64 + (a : Int) + 4 := by omega
      obtain rfl : k = 64 + a + 4 := by omega
      clear hk
      have c0 := BW.cell 0 (by omega)
      have c1 := BW.cell 1 (by omega)
      have c60 := BW.cell 60 (by omega)
      have c61 := BW.cell 61 (by omega)
      have c62 := BW.cell 62 (by omega)
      have c63 := BW.cell 63 (by omega)
      have d0 := BW.cell (64 + a) (by omega)
      have d1 := BW.cell (64 + a + 1) (by omega)
      have d2 := BW.cell (64 + a + 2) (by omega)
      have d3 := BW.cell (64 + a + 3) (by omega)
      have hf := BW.free
      have t0 : (64 + (a : Int)).toNat = 64 + a := by omega
      have t1 : (64 + (a : Int) + 1).toNat = 64 + a + 1 := by omega
      have t2 : (64 + (a : Int) + 2).toNat = 64 + a + 2 := by omega
      have t3 : (64 + (a : Int) + 3).toNat = 64 + a + 3 := by omega
      have hr : 0 ≤ (c : Int) % 8 ∧ (c : Int) % 8 ≤ 7 := by omega
      have hc8 : (c : Int) % 8 = 0 := by have := HC.out; omega
      go_wp2_with fail
      refine (new_any 55 ⟨wr.heap.size, 0, none⟩ (((64 + a + 4) : Nat) : Int) _ (by omega) (by omega)).mono ?_
      rintro e w3 ⟨rfl, hw3⟩
      have BF : BufW w w.heap.size (64 + a + 4) (imgBs (padBs ps L (64 + a + 4)) a 0) _ := (((((((((BW.put 0 77).put 1 90).put 60 ((64 + (a : Int)) % 256)).put 61 ((64 + (a : Int)) / 256)).put 62 0).put 63 0).put (64 + a) 80).put (64 + a + 1) 69).put (64 + a + 2) 0).put (64 + a + 3) 0
      have hby := BF.bytes (n := (64 + a + 4)) (by omega) (fun j _ => imgBs_bd ha (by omega) hp j)
      obtain ⟨hrd, hb3⟩ := img_rd (Z := wr.heap.size) hby (by simp) (by rw [BW.size]; omega) (by omega) (by omega) rfl hw3
      have hbF : Below w.heap.size w w3 := BF.bel.trans (hb3.mono (by rw [BW.size]; omega))
      have hCB : w.heap.size ≤ wr.heap.size := by rw [BW.size]; omega
      have hP3 := P.below hbF
      clear hw3 BF hby hb3
      go_wp2_with fail
      refine (loc_mz w.heap.size M mo mc bm (wr.heap.size + 1) wr.heap.size w.heap.size 0 (64 + a + 4) (64 + a + 4) 0 (imgBs (padBs ps L (64 + a + 4)) a 0) w3 hP3 hrd (by omega) hCB (imgBs_mz (by omega))).mono ?_
      rw [show (decide (64 ≤ (64 + a + 4)) && isPE (64 + a + 4) (imgBs (padBs ps L (64 + a + 4)) a 0)) = true from img_yes ha, show peS true = ⟨#[112, 101]⟩ from rfl, show peN true (lfa (imgBs (padBs ps L (64 + a + 4)) a 0)) = 64 + (a : Int) + 4 from by rw [imgBs_lfa ha]; rfl]
      rintro e w4 ⟨rfl, k4, hk4, hrd4, hkp4⟩
      have hb4 : Below w.heap.size w w4 := hbF.trans (hkp4.below hCB hbF.size)
      clear hkp4 hrd4 hP3 hrd
      go_wp2
      go_ret
      exact ⟨rfl, hb4⟩

set_option maxHeartbeats 3200000 in
set_option maxRecDepth 100000 in
theorem pimg_true_n (M mo mc bm a c g o L cap : Nat) (ps : Nat → Int) (w : World) (P : PeW w.heap.size M mo mc bm w) (ha : a ≤ 255) (hc : c ≤ 255) (HC : Hid (0 < c % 8)) (hg : g < w.heap.size) (hL : 0 < L) (hL2 : L ≤ 4096) (hpad : Bytes w g o L ps) :
    Calls Ybaf.prog 6 #[.slice (some ⟨g, o, none⟩) L cap, .int .u8 a, .bool true, .int .u8 c] w fun e w' => e = .returned (.bool true) ∧ Below w.heap.size w w' := by
  obtain ⟨wB, hmk0, BW0⟩ := buf_start w (64 + a + 4) (by omega)
  have hmk := hmk0 .i64
  rw [show ((64 + a + 4 : Nat) : Int) = 64 + (a : Int) + 4 from by omega] at hmk
  clear hmk0
  have hp : ∀ j : Nat, 0 ≤ padBs ps L (64 + a + 4) j ∧ padBs ps L (64 + a + 4) j ≤ 255 := padBs_bd hL hpad
  have BWs := BW0.zero_pad (ps := ps) (L := L)
  have hL' : (0 : Int) < (L : Int) := by omega
  go_enter Ybaf.func6, Ybaf.ntmps6
  go_wp2
  go_loopw [12] (fun i wr => ∃ k : Nat, k ≤ 64 + a + 4 ∧ i = .int .i64 k ∧ BufW w w.heap.size (64 + a + 4) (padBs ps L k) wr) (fun i _ => 64 + a + 4 - (intOf i).toNat)
  case atStart => exact ⟨0, Nat.zero_le _, rfl, BWs⟩
  case round =>
    obtain ⟨k, hk, rfl, BW⟩ := hrel
    by_cases hlt : k < 64 + a + 4
    · have hlt' : (k : Int) < 64 + (a : Int) + 4 := by omega
      have hm1 : k % L < L := Nat.mod_lt _ hL
      have hm2 : ((k : Int) % (L : Int)).toNat = k % L := by rw [← Int.natCast_emod, Int.toNat_natCast]
      have hm3 : 0 ≤ (k : Int) % (L : Int) := Int.emod_nonneg _ (by omega)
      have hm4 : (k : Int) % (L : Int) < (L : Int) := Int.emod_lt_of_pos _ hL'
      have e1 := (hpad.below BW.bel hg).at (k % L) hm1
      have e2 := BW.cell k hlt
      have e3 := BW.free k
      have hput := BW.put k (ps (k % L))
      rw [padBs_step] at hput
      go_wp2
      go_roundw
      case rel => exact ⟨k + 1, by omega, by go_num, hput⟩
      case measure => simp [intOf]; omega
    · have hlt' : ¬ (k : Int) < 64 + (a : Int) + 4 := by omega
      obtain rfl : k = 64 + a + 4 := by omega
      clear hk
      have c0 := BW.cell 0 (by omega)
      have c1 := BW.cell 1 (by omega)
      have c60 := BW.cell 60 (by omega)
      have c61 := BW.cell 61 (by omega)
      have c62 := BW.cell 62 (by omega)
      have c63 := BW.cell 63 (by omega)
      have d0 := BW.cell (64 + a) (by omega)
      have d1 := BW.cell (64 + a + 1) (by omega)
      have d2 := BW.cell (64 + a + 2) (by omega)
      have d3 := BW.cell (64 + a + 3) (by omega)
      have hf := BW.free
      have t0 : (64 + (a : Int)).toNat = 64 + a := by omega
      have t1 : (64 + (a : Int) + 1).toNat = 64 + a + 1 := by omega
      have t2 : (64 + (a : Int) + 2).toNat = 64 + a + 2 := by omega
      have t3 : (64 + (a : Int) + 3).toNat = 64 + a + 3 := by omega
      have hr : 0 ≤ (c : Int) % 8 ∧ (c : Int) % 8 ≤ 7 := by omega
      have hc8 : ((c : Int) % 8 == 0) = false := beq_eq_false_iff_ne.2 (by have := HC.out; omega)
      go_wp2_with fail
      refine (new_any 55 ⟨wr.heap.size, 0, none⟩ (((64 + a + 4 - c % 8) : Nat) : Int) _ (by omega) (by omega)).mono ?_
      rintro e w3 ⟨rfl, hw3⟩
      have BF : BufW w w.heap.size (64 + a + 4) (imgBs (padBs ps L (64 + a + 4)) a 0) _ := (((((((((BW.put 0 77).put 1 90).put 60 ((64 + (a : Int)) % 256)).put 61 ((64 + (a : Int)) / 256)).put 62 0).put 63 0).put (64 + a) 80).put (64 + a + 1) 69).put (64 + a + 2) 0).put (64 + a + 3) 0
      have hby := BF.bytes (n := (64 + a + 4 - c % 8)) (by omega) (fun j _ => imgBs_bd ha (by omega) hp j)
      obtain ⟨hrd, hb3⟩ := img_rd (Z := wr.heap.size) hby (by simp) (by rw [BW.size]; omega) (by omega) (by omega) rfl hw3
      have hbF : Below w.heap.size w w3 := BF.bel.trans (hb3.mono (by rw [BW.size]; omega))
      have hCB : w.heap.size ≤ wr.heap.size := by rw [BW.size]; omega
      have hP3 := P.below hbF
      clear hw3 BF hby hb3
      go_wp2_with fail
      refine (loc_mz w.heap.size M mo mc bm (wr.heap.size + 1) wr.heap.size w.heap.size 0 (64 + a + 4 - c % 8) (64 + a + 4) 0 (imgBs (padBs ps L (64 + a + 4)) a 0) w3 hP3 hrd (by omega) hCB (imgBs_mz (by omega))).mono ?_
      rw [show (decide (64 ≤ (64 + a + 4 - c % 8)) && isPE (64 + a + 4 - c % 8) (imgBs (padBs ps L (64 + a + 4)) a 0)) = false from img_cut ha (by have := HC.out; omega), show peS false = ⟨#[109, 122]⟩ from rfl, show peN false (lfa (imgBs (padBs ps L (64 + a + 4)) a 0)) = 0 from rfl]
      rintro e w4 ⟨rfl, k4, hk4, hrd4, hkp4⟩
      have hb4 : Below w.heap.size w w4 := hbF.trans (hkp4.below hCB hbF.size)
      clear hkp4 hrd4 hP3 hrd
      go_wp2
      go_ret
      exact ⟨rfl, hb4⟩

set_option maxHeartbeats 3200000 in
set_option maxRecDepth 100000 in
theorem pimg_false_z (M mo mc bm a c g o L cap : Nat) (ps : Nat → Int) (w : World) (P : PeW w.heap.size M mo mc bm w) (ha : a ≤ 255) (hc : c ≤ 255) (HC : Hid (c % 8 = 0)) (hg : g < w.heap.size) (hL : 0 < L) (hL2 : L ≤ 4096) (hpad : Bytes w g o L ps) :
    Calls Ybaf.prog 6 #[.slice (some ⟨g, o, none⟩) L cap, .int .u8 a, .bool false, .int .u8 c] w fun e w' => e = .returned (.bool true) ∧ Below w.heap.size w w' := by
  obtain ⟨wB, hmk0, BW0⟩ := buf_start w (64 + a + 4) (by omega)
  have hmk := hmk0 .i64
  rw [show ((64 + a + 4 : Nat) : Int) = 64 + (a : Int) + 4 from by omega] at hmk
  clear hmk0
  have hp : ∀ j : Nat, 0 ≤ padBs ps L (64 + a + 4) j ∧ padBs ps L (64 + a + 4) j ≤ 255 := padBs_bd hL hpad
  have BWs := BW0.zero_pad (ps := ps) (L := L)
  have hL' : (0 : Int) < (L : Int) := by omega
  go_enter Ybaf.func6, Ybaf.ntmps6
  go_wp2
  go_loopw [12] (fun i wr => ∃ k : Nat, k ≤ 64 + a + 4 ∧ i = .int .i64 k ∧ BufW w w.heap.size (64 + a + 4) (padBs ps L k) wr) (fun i _ => 64 + a + 4 - (intOf i).toNat)
  case atStart => exact ⟨0, Nat.zero_le _, rfl, BWs⟩
  case round =>
    obtain ⟨k, hk, rfl, BW⟩ := hrel
    by_cases hlt : k < 64 + a + 4
    · have hlt' : (k : Int) < 64 + (a : Int) + 4 := by omega
      have hm1 : k % L < L := Nat.mod_lt _ hL
      have hm2 : ((k : Int) % (L : Int)).toNat = k % L := by rw [← Int.natCast_emod, Int.toNat_natCast]
      have hm3 : 0 ≤ (k : Int) % (L : Int) := Int.emod_nonneg _ (by omega)
      have hm4 : (k : Int) % (L : Int) < (L : Int) := Int.emod_lt_of_pos _ hL'
      have e1 := (hpad.below BW.bel hg).at (k % L) hm1
      have e2 := BW.cell k hlt
      have e3 := BW.free k
      have hput := BW.put k (ps (k % L))
      rw [padBs_step] at hput
      go_wp2
      go_roundw
      case rel => exact ⟨k + 1, by omega, by go_num, hput⟩
      case measure => simp [intOf]; omega
    · have hlt' : ¬ (k : Int) < 64 + (a : Int) + 4 := by omega
      obtain rfl : k = 64 + a + 4 := by omega
      clear hk
      have c0 := BW.cell 0 (by omega)
      have c1 := BW.cell 1 (by omega)
      have c60 := BW.cell 60 (by omega)
      have c61 := BW.cell 61 (by omega)
      have c62 := BW.cell 62 (by omega)
      have c63 := BW.cell 63 (by omega)
      have d0 := BW.cell (64 + a) (by omega)
      have d1 := BW.cell (64 + a + 1) (by omega)
      have d2 := BW.cell (64 + a + 2) (by omega)
      have d3 := BW.cell (64 + a + 3) (by omega)
      have hf := BW.free
      have t0 : (64 + (a : Int)).toNat = 64 + a := by omega
      have t1 : (64 + (a : Int) + 1).toNat = 64 + a + 1 := by omega
      have t2 : (64 + (a : Int) + 2).toNat = 64 + a + 2 := by omega
      have t3 : (64 + (a : Int) + 3).toNat = 64 + a + 3 := by omega
      have hr : 0 ≤ (c : Int) % 8 ∧ (c : Int) % 8 ≤ 7 := by omega
      have hc8 : (c : Int) % 8 = 0 := by have := HC.out; omega
      go_wp2_with fail
      refine (new_any 55 ⟨wr.heap.size, 0, none⟩ (((64 + a + 4) : Nat) : Int) _ (by omega) (by omega)).mono ?_
      rintro e w3 ⟨rfl, hw3⟩
      have BF : BufW w w.heap.size (64 + a + 4) (imgBs (padBs ps L (64 + a + 4)) a 88) _ := (((((((((BW.put 0 77).put 1 90).put 60 ((64 + (a : Int)) % 256)).put 61 ((64 + (a : Int)) / 256)).put 62 0).put 63 0).put (64 + a) 80).put (64 + a + 1) 69).put (64 + a + 2) 0).put (64 + a + 3) 88
      have hby := BF.bytes (n := (64 + a + 4)) (by omega) (fun j _ => imgBs_bd ha (by omega) hp j)
      obtain ⟨hrd, hb3⟩ := img_rd (Z := wr.heap.size) hby (by simp) (by rw [BW.size]; omega) (by omega) (by omega) rfl hw3
      have hbF : Below w.heap.size w w3 := BF.bel.trans (hb3.mono (by rw [BW.size]; omega))
      have hCB : w.heap.size ≤ wr.heap.size := by rw [BW.size]; omega
      have hP3 := P.below hbF
      clear hw3 BF hby hb3
      go_wp2_with fail
      refine (loc_mz w.heap.size M mo mc bm (wr.heap.size + 1) wr.heap.size w.heap.size 0 (64 + a + 4) (64 + a + 4) 0 (imgBs (padBs ps L (64 + a + 4)) a 88) w3 hP3 hrd (by omega) hCB (imgBs_mz (by omega))).mono ?_
      rw [show (decide (64 ≤ (64 + a + 4)) && isPE (64 + a + 4) (imgBs (padBs ps L (64 + a + 4)) a 88)) = false from img_sig ha, show peS false = ⟨#[109, 122]⟩ from rfl, show peN false (lfa (imgBs (padBs ps L (64 + a + 4)) a 88)) = 0 from rfl]
      rintro e w4 ⟨rfl, k4, hk4, hrd4, hkp4⟩
      have hb4 : Below w.heap.size w w4 := hbF.trans (hkp4.below hCB hbF.size)
      clear hkp4 hrd4 hP3 hrd
      go_wp2
      go_ret
      exact ⟨rfl, hb4⟩

set_option maxHeartbeats 3200000 in
set_option maxRecDepth 100000 in
theorem pimg_false_n (M mo mc bm a c g o L cap : Nat) (ps : Nat → Int) (w : World) (P : PeW w.heap.size M mo mc bm w) (ha : a ≤ 255) (hc : c ≤ 255) (HC : Hid (0 < c % 8)) (hg : g < w.heap.size) (hL : 0 < L) (hL2 : L ≤ 4096) (hpad : Bytes w g o L ps) :
    Calls Ybaf.prog 6 #[.slice (some ⟨g, o, none⟩) L cap, .int .u8 a, .bool false, .int .u8 c] w fun e w' => e = .returned (.bool true) ∧ Below w.heap.size w w' := by
  obtain ⟨wB, hmk0, BW0⟩ := buf_start w (64 + a + 4) (by omega)
  have hmk := hmk0 .i64
  rw [show ((64 + a + 4 : Nat) : Int) = 64 + (a : Int) + 4 from by omega] at hmk
  clear hmk0
  have hp : ∀ j : Nat, 0 ≤ padBs ps L (64 + a + 4) j ∧ padBs ps L (64 + a + 4) j ≤ 255 := padBs_bd hL hpad
  have BWs := BW0.zero_pad (ps := ps) (L := L)
  have hL' : (0 : Int) < (L : Int) := by omega
  go_enter Ybaf.func6, Ybaf.ntmps6
  go_wp2
  go_loopw [12] (fun i wr => ∃ k : Nat, k ≤ 64 + a + 4 ∧ i = .int .i64 k ∧ BufW w w.heap.size (64 + a + 4) (padBs ps L k) wr) (fun i _ => 64 + a + 4 - (intOf i).toNat)
  case atStart => exact ⟨0, Nat.zero_le _, rfl, BWs⟩
  case round =>
    obtain ⟨k, hk, rfl, BW⟩ := hrel
    by_cases hlt : k < 64 + a + 4
    · have hlt' : (k : Int) < 64 + (a : Int) + 4 := by omega
      have hm1 : k % L < L := Nat.mod_lt _ hL
      have hm2 : ((k : Int) % (L : Int)).toNat = k % L := by rw [← Int.natCast_emod, Int.toNat_natCast]
      have hm3 : 0 ≤ (k : Int) % (L : Int) := Int.emod_nonneg _ (by omega)
      have hm4 : (k : Int) % (L : Int) < (L : Int) := Int.emod_lt_of_pos _ hL'
      have e1 := (hpad.below BW.bel hg).at (k % L) hm1
      have e2 := BW.cell k hlt
      have e3 := BW.free k
      have hput := BW.put k (ps (k % L))
      rw [padBs_step] at hput
      go_wp2
      go_roundw
      case rel => exact ⟨k + 1, by omega, by go_num, hput⟩
      case measure => simp [intOf]; omega
    · have hlt' : ¬ (k : Int) < 64 + (a : Int) + 4 := by omega
      obtain rfl : k = 64 + a + 4 := by omega
      clear hk
      have c0 := BW.cell 0 (by omega)
      have c1 := BW.cell 1 (by omega)
      have c60 := BW.cell 60 (by omega)
      have c61 := BW.cell 61 (by omega)
      have c62 := BW.cell 62 (by omega)
      have c63 := BW.cell 63 (by omega)
      have d0 := BW.cell (64 + a) (by omega)
      have d1 := BW.cell (64 + a + 1) (by omega)
      have d2 := BW.cell (64 + a + 2) (by omega)
      have d3 := BW.cell (64 + a + 3) (by omega)
      have hf := BW.free
      have t0 : (64 + (a : Int)).toNat = 64 + a := by omega
      have t1 : (64 + (a : Int) + 1).toNat = 64 + a + 1 := by omega
      have t2 : (64 + (a : Int) + 2).toNat = 64 + a + 2 := by omega
      have t3 : (64 + (a : Int) + 3).toNat = 64 + a + 3 := by omega
      have hr : 0 ≤ (c : Int) % 8 ∧ (c : Int) % 8 ≤ 7 := by omega
      have hc8 : ((c : Int) % 8 == 0) = false := beq_eq_false_iff_ne.2 (by have := HC.out; omega)
      go_wp2_with fail
      refine (new_any 55 ⟨wr.heap.size, 0, none⟩ (((64 + a + 4 - c % 8) : Nat) : Int) _ (by omega) (by omega)).mono ?_
      rintro e w3 ⟨rfl, hw3⟩
      have BF : BufW w w.heap.size (64 + a + 4) (imgBs (padBs ps L (64 + a + 4)) a 88) _ := (((((((((BW.put 0 77).put 1 90).put 60 ((64 + (a : Int)) % 256)).put 61 ((64 + (a : Int)) / 256)).put 62 0).put 63 0).put (64 + a) 80).put (64 + a + 1) 69).put (64 + a + 2) 0).put (64 + a + 3) 88
      have hby := BF.bytes (n := (64 + a + 4 - c % 8)) (by omega) (fun j _ => imgBs_bd ha (by omega) hp j)
      obtain ⟨hrd, hb3⟩ := img_rd (Z := wr.heap.size) hby (by simp) (by rw [BW.size]; omega) (by omega) (by omega) rfl hw3
      have hbF : Below w.heap.size w w3 := BF.bel.trans (hb3.mono (by rw [BW.size]; omega))
      have hCB : w.heap.size ≤ wr.heap.size := by rw [BW.size]; omega
      have hP3 := P.below hbF
      clear hw3 BF hby hb3
      go_wp2_with fail
      refine (loc_mz w.heap.size M mo mc bm (wr.heap.size + 1) wr.heap.size w.heap.size 0 (64 + a + 4 - c % 8) (64 + a + 4) 0 (imgBs (padBs ps L (64 + a + 4)) a 88) w3 hP3 hrd (by omega) hCB (imgBs_mz (by omega))).mono ?_
      rw [show (decide (64 ≤ (64 + a + 4 - c % 8)) && isPE (64 + a + 4 - c % 8) (imgBs (padBs ps L (64 + a + 4)) a 88)) = false from img_sig ha, show peS false = ⟨#[109, 122]⟩ from rfl, show peN false (lfa (imgBs (padBs ps L (64 + a + 4)) a 88)) = 0 from rfl]
      rintro e w4 ⟨rfl, k4, hk4, hrd4, hkp4⟩
      have hb4 : Below w.heap.size w w4 := hbF.trans (hkp4.below hCB hbF.size)
      clear hkp4 hrd4 hP3 hrd
      go_wp2
      go_ret
      exact ⟨rfl, hb4⟩

end Go.Proofs.YbulkblxcFmt
