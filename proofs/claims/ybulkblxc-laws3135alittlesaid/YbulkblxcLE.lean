import Derived.Test.YbulkblxcSym
import Derived.Lib.EndianBits
namespace Go.Proofs.Ybulkblxc
open Go.RowKit
set_option linter.unusedVariables false

theorem cellOld {w : World} {a : Addr} {v : Value} (o : Obj) (h : w.cell? a = some v) : (w.alloc o).cell? a = some v :=
  (World.cell?_alloc_lt w o a (World.block_lt_of_cell? w a h)).trans h

/-- Four bytes, the least first. -/
def le4 (b0 b1 b2 b3 : Int) : Int := b0 + b1 * 256 + b2 * 65536 + b3 * 16777216

theorem le4_u32 {b0 b1 b2 b3 : Int} (h0 : 0 ≤ b0 ∧ b0 ≤ 255) (h1 : 0 ≤ b1 ∧ b1 ≤ 255) (h2 : 0 ≤ b2 ∧ b2 ≤ 255) (h3 : 0 ≤ b3 ∧ b3 ≤ 255) :
    bits .or .u32 (bits .or .u32 (bits .or .u32 b0 (b1 * 256)) (b2 * 65536)) (b3 * 16777216) = le4 b0 b1 b2 b3 := by
  simp (disch := omega) only [u32_or8, u32_or16, u32_or24]
  rfl

theorem le4_u64 {b0 b1 b2 b3 : Int} (h0 : 0 ≤ b0 ∧ b0 ≤ 255) (h1 : 0 ≤ b1 ∧ b1 ≤ 255) (h2 : 0 ≤ b2 ∧ b2 ≤ 255) (h3 : 0 ≤ b3 ∧ b3 ≤ 255) :
    bits .or .u64 (bits .or .u64 (bits .or .u64 b0 (b1 * 256)) (b2 * 65536)) (b3 * 16777216) = le4 b0 b1 b2 b3 := by
  simp (disch := omega) only [u64_or8, u64_or16, u64_or24]
  rfl

theorem le4_bd {b0 b1 b2 b3 : Int} (h0 : 0 ≤ b0 ∧ b0 ≤ 255) (h1 : 0 ≤ b1 ∧ b1 ≤ 255) (h2 : 0 ≤ b2 ∧ b2 ≤ 255) (h3 : 0 ≤ b3 ∧ b3 ≤ 255) : 0 ≤ le4 b0 b1 b2 b3 ∧ le4 b0 b1 b2 b3 ≤ 4294967295 := by
  unfold le4; omega

theorem ret_int {k : IntKind} {a b : Int} (h : a = b) : Ending.returned (.int k a) = .returned (.int k b) := by rw [h]

set_option maxHeartbeats 400000 in
theorem le_uint32 (g o n c : Nat) (b0 b1 b2 b3 : Int) (w : World) (hn : 4 ≤ n) (h0 : 0 ≤ b0 ∧ b0 ≤ 255) (h1 : 0 ≤ b1 ∧ b1 ≤ 255) (h2 : 0 ≤ b2 ∧ b2 ≤ 255) (h3 : 0 ≤ b3 ∧ b3 ≤ 255)
    (c0 : w.cell? ⟨g, o, none⟩ = some (.int .u8 b0)) (c1 : w.cell? ⟨g, o + 1, none⟩ = some (.int .u8 b1)) (c2 : w.cell? ⟨g, o + 2, none⟩ = some (.int .u8 b2)) (c3 : w.cell? ⟨g, o + 3, none⟩ = some (.int .u8 b3)) :
    Calls Yba.prog 26 #[.agg #[], .slice (some ⟨g, o, none⟩) n c] w fun e w' => e = .returned (.int .u32 (le4 b0 b1 b2 b3)) ∧ ∃ nq, w' = (w.alloc (.cells #[] 24)).drewN nq := by
  have e0 := cellOld (.cells #[] 24) c0
  have e1 := cellOld (.cells #[] 24) c1
  have e2 := cellOld (.cells #[] 24) c2
  have e3 := cellOld (.cells #[] 24) c3
  clear c0 c1 c2 c3
  have hn3 : (3 : Int) < (n : Int) := by omega
  have hn2 : (2 : Int) < (n : Int) := by omega
  have hn1 : (1 : Int) < (n : Int) := by omega
  have hn0 : (0 : Int) < (n : Int) := by omega
  go_enter Yba.func26, Yba.ntmps26
  go_wp2
  go_quiet (fail)
  go_wp2
  go_ret
  exact ⟨ret_int (le4_u32 h0 h1 h2 h3), nq, rfl⟩

set_option maxHeartbeats 400000 in
theorem ale_any (g o n c : Nat) (i : Int) (b0 b1 b2 b3 : Int) (w : World) (hi : 0 ≤ i) (hi2 : i ≤ 100) (hn : i + 4 ≤ (n : Int)) (h0 : 0 ≤ b0 ∧ b0 ≤ 255) (h1 : 0 ≤ b1 ∧ b1 ≤ 255) (h2 : 0 ≤ b2 ∧ b2 ≤ 255) (h3 : 0 ≤ b3 ∧ b3 ≤ 255)
    (c0 : w.cell? ⟨g, o + i.toNat, none⟩ = some (.int .u8 b0)) (c1 : w.cell? ⟨g, o + (i + 1).toNat, none⟩ = some (.int .u8 b1)) (c2 : w.cell? ⟨g, o + (i + 2).toNat, none⟩ = some (.int .u8 b2)) (c3 : w.cell? ⟨g, o + (i + 3).toNat, none⟩ = some (.int .u8 b3)) :
    Calls Yba.prog 6 #[.slice (some ⟨g, o, none⟩) n c, .int .i64 i] w fun e w' => e = .returned (.int .u64 (le4 b0 b1 b2 b3)) ∧ ∃ nq, w' = w.drewN nq := by
  have hn3 : i + 3 < (n : Int) := by omega
  have hn2 : i + 2 < (n : Int) := by omega
  have hn1 : i + 1 < (n : Int) := by omega
  have hn0 : i < (n : Int) := by omega
  go_enter Yba.func6, Yba.ntmps6
  go_wp2
  go_quiet (fail)
  go_wp2
  go_ret
  exact ⟨ret_int (le4_u64 h0 h1 h2 h3), nq, rfl⟩

theorem method_le (w : World) : (method 170 24 (.agg #[]) "Uint32").run Yba.prog w = .ok (26, .agg #[]) w := by kernel_rfl

set_option maxHeartbeats 400000 in
theorem uint_le (g o bl bc : Nat) (off : Int) (b0 b1 b2 b3 : Int) (w : World) (hoff0 : 0 ≤ off) (hoff : off ≤ 100) (hs : off + 4 ≤ (bl : Int)) (hbc : bl ≤ bc) (hbl : bc ≤ 2000)
    (h0 : 0 ≤ b0 ∧ b0 ≤ 255) (h1 : 0 ≤ b1 ∧ b1 ≤ 255) (h2 : 0 ≤ b2 ∧ b2 ≤ 255) (h3 : 0 ≤ b3 ∧ b3 ≤ 255)
    (c0 : w.cell? ⟨g, o + off.toNat, none⟩ = some (.int .u8 b0)) (c1 : w.cell? ⟨g, o + off.toNat + 1, none⟩ = some (.int .u8 b1)) (c2 : w.cell? ⟨g, o + off.toNat + 2, none⟩ = some (.int .u8 b2)) (c3 : w.cell? ⟨g, o + off.toNat + 3, none⟩ = some (.int .u8 b3)) :
    Calls Yba.prog 7 #[.agg #[.slice (some ⟨g, o, none⟩) bl bc, .iface 24 (.agg #[])], .int .i64 off, .int .i64 4] w fun e w' => e = .returned (.tuple #[.int .u64 (le4 b0 b1 b2 b3), .bool true]) ∧ Below w.heap.size w w' := by
  have hm := method_le
  have bv := le4_bd h0 h1 h2 h3
  have hwr := wrap_u64_small bv.1 bv.2
  generalize hv : le4 b0 b1 b2 b3 = v at *
  have HV : Hid (le4 b0 b1 b2 b3 = v) := hv
  clear hv
  go_enter Yba.func7, Yba.ntmps7
  go_wp2
  go_region_with (go_at_call 26; refine (le_uint32 g (o + off.toNat) _ _ b0 b1 b2 b3 _ (by omega) h0 h1 h2 h3 (by exact cellOld _ c0) (by exact cellOld _ c1) (by exact cellOld _ c2) (by exact cellOld _ c3)).mono ?_; rw [HV.out]; rintro e w' ⟨rfl, nq, rfl⟩)
  all_goals
    go_wp2
    go_ret2
    exact ⟨rfl, below_drewN (((Below.refl _ _).alloc (Nat.le_refl _) _).alloc (by simp) _) _⟩

/-- The bytes of a row. -/
def Bytes (w : World) (g o n : Nat) (bs : Nat → Int) : Prop := ∀ j, j < n → w.cell? ⟨g, o + j, none⟩ = some (.int .u8 (bs j)) ∧ 0 ≤ bs j ∧ bs j ≤ 255

theorem Bytes.at {w : World} {g o n : Nat} {bs : Nat → Int} (h : Bytes w g o n bs) (j : Nat) (hj : j < n) : w.cell? ⟨g, o + j, none⟩ = some (.int .u8 (bs j)) := (h j hj).1
theorem Bytes.bd {w : World} {g o n : Nat} {bs : Nat → Int} (h : Bytes w g o n bs) (j : Nat) (hj : j < n) : 0 ≤ bs j ∧ bs j ≤ 255 := (h j hj).2
theorem Bytes.below {B : Nat} {w w' : World} {g o n : Nat} {bs : Nat → Int} (h : Bytes w g o n bs) (hb : Below B w w') (hg : g < B) : Bytes w' g o n bs := fun j hj => ⟨(hb.cell (p := ⟨g, o + j, none⟩) hg).trans (h j hj).1, (h j hj).2⟩

/-- Four bytes of a row at k, the least first. -/
def leAt (bs : Nat → Int) (k : Nat) : Int := le4 (bs k) (bs (k + 1)) (bs (k + 2)) (bs (k + 3))

theorem uint_le_at (g o bl bc k : Nat) (bs : Nat → Int) (w : World) (hk : k ≤ 100) (hs : k + 4 ≤ bl) (hbc : bl ≤ bc) (hbl : bc ≤ 2000) (h : Bytes w g o bl bs) :
    Calls Yba.prog 7 #[.agg #[.slice (some ⟨g, o, none⟩) bl bc, .iface 24 (.agg #[])], .int .i64 (k : Int), .int .i64 4] w fun e w' => e = .returned (.tuple #[.int .u64 (leAt bs k), .bool true]) ∧ Below w.heap.size w w' :=
  uint_le g o bl bc k (bs k) (bs (k + 1)) (bs (k + 2)) (bs (k + 3)) w (by omega) (by omega) (by omega) hbc hbl (h.bd _ (by omega)) (h.bd _ (by omega)) (h.bd _ (by omega)) (h.bd _ (by omega))
    (h.at k (by omega)) (h.at (k + 1) (by omega)) (h.at (k + 2) (by omega)) (h.at (k + 3) (by omega))

theorem ale_at (g o n c k : Nat) (bs : Nat → Int) (w : World) (hk : k ≤ 100) (hs : k + 4 ≤ n) (h : Bytes w g o n bs) :
    Calls Yba.prog 6 #[.slice (some ⟨g, o, none⟩) n c, .int .i64 (k : Int)] w fun e w' => e = .returned (.int .u64 (leAt bs k)) ∧ ∃ nq, w' = w.drewN nq :=
  ale_any g o n c k (bs k) (bs (k + 1)) (bs (k + 2)) (bs (k + 3)) w (by omega) (by omega) (by omega) (h.bd _ (by omega)) (h.bd _ (by omega)) (h.bd _ (by omega)) (h.bd _ (by omega))
    (h.at k (by omega)) (by rw [show ((k : Int) + 1).toNat = k + 1 from by omega]; exact h.at (k + 1) (by omega)) (by rw [show ((k : Int) + 2).toNat = k + 2 from by omega]; exact h.at (k + 2) (by omega)) (by rw [show ((k : Int) + 3).toNat = k + 3 from by omega]; exact h.at (k + 3) (by omega))

set_option maxHeartbeats 400000 in
theorem sym_le_mid (g o bl bc : Nat) (bs : Nat → Int) (w : World) (hg : g < w.heap.size) (h12 : 12 ≤ bl) (h16 : bl < 16) (hbc : bl ≤ bc) (hbl : bc ≤ 2000) (h : Bytes w g o bl bs) :
    Calls Yba.prog 5 #[hdr (some ⟨g, o, none⟩) bl bc (.iface 24 (.agg #[]))] w fun e w' => e = .returned (.tuple #[.int .u64 (leAt bs 8), .int .u64 0, .bool false]) ∧ Below w.heap.size w w' := by
  go_enter Yba.func5, Yba.ntmps5
  go_wp2_with fail
  refine (uint_le_at g o bl bc 8 bs _ (by omega) (by omega) hbc hbl (h.below ((Below.refl w.heap.size _).alloc (Nat.le_refl _) _) hg)).mono ?_
  rintro e w3 ⟨rfl, hb⟩
  have hc0 := (hb.cell (p := ⟨w.heap.size, 0, none⟩) (by simp)).trans (World.cell?_alloc_at _ _ _ 0 rfl)
  have hc1 := (hb.cell (p := ⟨w.heap.size, 1, none⟩) (by simp)).trans (World.cell?_alloc_at _ _ _ 1 rfl)
  have hb' : Below w.heap.size w w3 := ((Below.refl _ _).alloc (Nat.le_refl _) _).trans (hb.mono (by simp))
  clear hb
  go_wp2_with fail
  refine (uint_short _ _ _ _ _ _ (by omega) (by omega) (by omega)).mono ?_
  rintro e w' ⟨rfl, rfl⟩
  go_wp2
  go_ret3
  exact ⟨rfl, hb'.alloc hb'.size _⟩

set_option maxHeartbeats 400000 in
theorem sym_le_full (g o bl bc : Nat) (bs : Nat → Int) (w : World) (hg : g < w.heap.size) (h16 : 16 ≤ bl) (hbc : bl ≤ bc) (hbl : bc ≤ 2000) (h : Bytes w g o bl bs) :
    Calls Yba.prog 5 #[hdr (some ⟨g, o, none⟩) bl bc (.iface 24 (.agg #[]))] w fun e w' => e = .returned (.tuple #[.int .u64 (leAt bs 8), .int .u64 (leAt bs 12), .bool true]) ∧ Below w.heap.size w w' := by
  go_enter Yba.func5, Yba.ntmps5
  go_wp2_with fail
  refine (uint_le_at g o bl bc 8 bs _ (by omega) (by omega) hbc hbl (h.below ((Below.refl w.heap.size _).alloc (Nat.le_refl _) _) hg)).mono ?_
  rintro e w3 ⟨rfl, hb⟩
  have hc0 := (hb.cell (p := ⟨w.heap.size, 0, none⟩) (by simp)).trans (World.cell?_alloc_at _ _ _ 0 rfl)
  have hc1 := (hb.cell (p := ⟨w.heap.size, 1, none⟩) (by simp)).trans (World.cell?_alloc_at _ _ _ 1 rfl)
  have hb' : Below w.heap.size w w3 := ((Below.refl _ _).alloc (Nat.le_refl _) _).trans (hb.mono (by simp))
  clear hb
  go_wp2_with fail
  refine (uint_le_at g o bl bc 12 bs _ (by omega) (by omega) hbc hbl (h.below hb' hg)).mono ?_
  rintro e w4 ⟨rfl, hb2⟩
  go_wp2
  go_ret3
  exact ⟨rfl, hb'.trans (hb2.mono hb'.size)⟩

end Go.Proofs.Ybulkblxc
