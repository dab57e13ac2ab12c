import Derived.Test.YbulkblxcFmtLoc
namespace Go.Proofs.YbulkblxcFmt
open Go.RowKit
set_option linter.unusedVariables false

theorem img_any (B0 M mo mc bm R C D o n cap k : Nat) (bs : Nat → Int) (w : World) (P : PeW B0 M mo mc bm w) (H : RdAt R C D o n cap bs false k w) (hk : k ≤ 900) (hCB : B0 ≤ C) :
    Calls Ybaf.prog 30 #[.pointer (some ⟨R, 0, none⟩)] w fun e w' => e = .returned (.tuple #[.string (peS (decide (64 ≤ n) && isPE n bs)), .int .u64 (peN (decide (64 ≤ n) && isPE n bs) (lfa bs)), .nilIface]) ∧ RdTo R C D o n cap bs (k + 2) w w' := by
  by_cases h64 : 64 ≤ n
  · rw [decide_eq_true h64, Bool.true_and]
    exact img_long B0 M mo mc bm R C D o n cap k bs w P H hk hCB h64
  · rw [decide_eq_false h64, Bool.false_and]
    exact img_short B0 M mo mc bm R C D o n cap k bs w P H hk hCB (by omega)

theorem RdTo.more {R C D o n cap : Nat} {bs : Nat → Int} {K1 K2 : Nat} {a b c : World} (h : RdTo R C D o n cap bs K1 a b) (hK : ∀ k, k ≤ K1 → RdAt R C D o n cap bs false k b → RdTo R C D o n cap bs K2 b c) : RdTo R C D o n cap bs K2 a c := by
  obtain ⟨j, h1, h2, h3⟩ := h
  exact RdTo.trans (K1 := K1) h3 (hK j h1 h2)

set_option maxHeartbeats 400000 in
theorem loc_mz (B0 M mo mc bm R C D o n cap k : Nat) (bs : Nat → Int) (w : World) (P : PeW B0 M mo mc bm w) (H : RdAt R C D o n cap bs false k w) (hk : k ≤ 800) (hCB : B0 ≤ C) (hmz : isMZ n bs = true) :
    Calls Ybaf.prog 15 #[.pointer (some ⟨R, 0, none⟩)] w fun e w' => e = .returned (.tuple #[.string (peS (decide (64 ≤ n) && isPE n bs)), .int .u64 (peN (decide (64 ≤ n) && isPE n bs) (lfa bs)), .nilIface]) ∧ RdTo R C D o n cap bs (k + 3) w w' := by
  have hB := P.hB
  have g1 := P.dos
  generalize hz : (decide (64 ≤ n) && isPE n bs) = z
  have HZ : Hid ((decide (64 ≤ n) && isPE n bs) = z) := hz
  clear hz
  go_enter Ybaf.func15, Ybaf.ntmps15
  go_wp2_with fail
  refine (starts_any B0 M mo mc bm R C D o n cap k bs w P H (by omega) hCB).mono ?_
  rw [hmz]
  rintro e w1 ⟨rfl, k1, hk1, hR1, hk1'⟩
  have hP1 := P.below (hk1'.below hCB hB)
  go_wp2_with fail
  refine (img_any B0 M mo mc bm R C D o n cap k1 bs w1 hP1 hR1 (by omega) hCB).mono ?_
  rw [HZ.out]
  rintro e w2 ⟨rfl, k2, hk2, hR2, hk2'⟩
  go_wp2
  go_ret3
  exact ⟨rfl, k2, by omega, hR2, hk1'.trans hk2'⟩

set_option maxHeartbeats 400000 in
theorem loc_empty (B0 M mo mc bm R C D o n cap k : Nat) (bs : Nat → Int) (w : World) (P : PeW B0 M mo mc bm w) (H : RdAt R C D o n cap bs false k w) (hk : k ≤ 800) (hCB : B0 ≤ C) (h2 : n < 2) :
    Calls Ybaf.prog 15 #[.pointer (some ⟨R, 0, none⟩)] w fun e w' => e = .returned (.tuple #[.string ⟨#[]⟩, .int .u64 0, .nilIface]) ∧ RdTo R C D o n cap bs (k + 3) w w' := by
  have hB := P.hB
  have g1 := P.dos
  have hmz : isMZ n bs = false := by simp [isMZ, show ¬ 2 ≤ n by omega]
  go_enter Ybaf.func15, Ybaf.ntmps15
  go_wp2_with fail
  refine (starts_any B0 M mo mc bm R C D o n cap k bs w P H (by omega) hCB).mono ?_
  rw [hmz]
  rintro e w1 ⟨rfl, k1, hk1, hR1, hk1'⟩
  have hP1 := P.below (hk1'.below hCB hB)
  go_wp2_with fail
  by_cases h0 : n = 0
  · refine (bytes_none R C D o n cap k1 0 2 bs false w1 hR1 (by omega) (by omega)).mono ?_
    rintro e w2 ⟨rfl, hw2⟩
    have hb2 : Below w1.heap.size w1 w2 := by rw [hw2]; exact (Below.refl _ _).alloc (Nat.le_refl _) _
    clear hw2 h0
    have hP2 := hP1.below (hb2.mono hP1.hB)
    go_wp2_with fail
    refine (isOut_hit _ _ hP2.errT).mono ?_
    rintro e w3 ⟨rfl, hb3⟩
    go_wp2
    go_ret3
    exact ⟨rfl, k1, by omega, (hR1.below hb2).below hb3, (hk1'.trans (KeepsC.of_below hb2)).trans (KeepsC.of_below hb3)⟩
  · refine (bytes_part R C D o n cap k1 0 2 n bs w1 hR1 (by omega) (by omega) (by omega) (by omega)).mono ?_
    rintro e w2 ⟨rfl, hg2⟩
    have hk2 : KeepsC C w1 w2 := ((KeepsC.refl C w1).alloc _).trans hg2.kept
    have hP2 := hP1.below (hk2.below hCB hP1.hB)
    go_wp2_with fail
    refine (isOut_hit _ _ hP2.errT).mono ?_
    rintro e w3 ⟨rfl, hb3⟩
    go_wp2
    go_ret3
    exact ⟨rfl, k1 + 1, by omega, hg2.rd.below hb3, (hk1'.trans hk2).trans (KeepsC.of_below hb3)⟩

end Go.Proofs.YbulkblxcFmt
