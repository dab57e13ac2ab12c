import Derived.Test.YbulkblxcFmtFailL
namespace Go.Proofs.YbulkblxcFmt
open Go.RowKit
set_option linter.unusedVariables false

set_option maxHeartbeats 400000 in
theorem starts_zero (B0 M mo mc bm R C D o n cap k : Nat) (bs : Nat → Int) (fl : Bool) (w : World) (P : PeW B0 M mo mc bm w) (H : RdAt R C D o n cap bs fl k w) (h0 : n = 0) :
    Calls Ybaf.prog 29 #[.pointer (some ⟨R, 0, none⟩), .slice (some ⟨M, mo, none⟩) 2 mc] w fun e w' => e = .returned (.tuple #[.bool false, .nilIface]) ∧ Below w.heap.size w w' := by
  have hB := P.hB
  have hby := bytes_none R C D o n cap k 0 2 bs fl w H (by omega) (by omega)
  clear H h0
  go_enter Ybaf.func29, Ybaf.ntmps29
  go_wp2_with fail
  refine hby.mono ?_
  rintro e w1 ⟨rfl, hw1⟩
  have hb1 : Below w.heap.size w w1 := by rw [hw1]; exact (Below.refl _ _).alloc (Nat.le_refl _) _
  clear hw1
  have hP := P.below (hb1.mono hB)
  go_wp2_with fail
  refine (isOut_hit _ _ hP.errT).mono ?_
  rintro e w2 ⟨rfl, hb⟩
  have hP2 := hP.below (hb.mono hP.hB)
  have c1 := conv_nil w2 0 0
  have c2 := conv_bytes w2 M mo 2 mc _ hP2.dosB
  go_wp2_with (go_at_call 35; refine (equal_any _ _ _ _ _ c1 c2).mono ?_; rintro e w' ⟨rfl, rfl⟩)
  go_ret2
  exact ⟨ret_bool2 (ne_len0' (by omega)), hb1.trans (hb.mono hb1.size)⟩

set_option maxHeartbeats 400000 in
theorem loc_zero (B0 M mo mc bm R C D o n cap k : Nat) (bs : Nat → Int) (fl : Bool) (w : World) (P : PeW B0 M mo mc bm w) (H : RdAt R C D o n cap bs fl k w) (h0 : n = 0) :
    Calls Ybaf.prog 15 #[.pointer (some ⟨R, 0, none⟩)] w fun e w' => e = .returned (.tuple #[.string ⟨#[]⟩, .int .u64 0, .nilIface]) ∧ Below w.heap.size w w' := by
  have hB := P.hB
  have g1 := P.dos
  have HZ : Hid (n = 0) := h0
  have hst := starts_zero B0 M mo mc bm R C D o n cap k bs fl w P H h0
  clear h0
  go_enter Ybaf.func15, Ybaf.ntmps15
  go_wp2_with fail
  refine hst.mono ?_
  rintro e w1 ⟨rfl, hb1⟩
  have hP1 := P.below (hb1.mono hB)
  have hR1 := H.below hb1
  clear hst
  go_wp2_with fail
  refine (bytes_none R C D o n cap k 0 2 bs fl w1 hR1 (by have := HZ.out; omega) (by omega)).mono ?_
  rintro e w2 ⟨rfl, hw2⟩
  have hb2 : Below w1.heap.size w1 w2 := by rw [hw2]; exact (Below.refl _ _).alloc (Nat.le_refl _) _
  clear hw2
  have hP2 := hP1.below (hb2.mono hP1.hB)
  go_wp2_with fail
  refine (isOut_hit _ _ hP2.errT).mono ?_
  rintro e w3 ⟨rfl, hb3⟩
  go_wp2
  go_ret3
  exact ⟨rfl, (hb1.trans (hb2.mono hb1.size)).trans (hb3.mono (Nat.le_trans hb1.size hb2.size))⟩

end Go.Proofs.YbulkblxcFmt
