import Derived.Test.YbulkblxcLE
import Derived.Test.YbulkblxcCopy
namespace Go.Proofs.Ybulkblxc
open Go.RowKit
set_option linter.unusedVariables false

theorem info5 : (Yba.prog.info? 5).map (fun i => (i.zero, i.size, i.bytes)) = some (some (.int .u8 0), 1, 1) := by kernel_rfl
theorem size5 : (Yba.prog.info? 5).map (·.size) = some 1 := by kernel_rfl

theorem make_n (n : Nat) (hn : n ≤ 1024) : ∀ wx, (Instr.makeSlice 22 (.int .i64 (n : Int)) (.int .i64 (n : Int))).run Yba.prog wx = .ok (.slice (some ⟨wx.heap.size, 0, none⟩) n n) (wx.alloc (.cells (madeCells #[.int .u8 0] n) 5)) := by
  obtain ⟨i0, hi, hz0, hz1, hz2⟩ := info_parts info5
  intro wx
  have h := run_make (P := Yba.prog) (w := wx) 22 5 i0 (.int .u8 0) Yba.underlying22 hi hz0 .i64 .i64 (n : Int) (n : Int) (by omega) (by omega) (by rw [hz2]; omega) (by omega)
  rw [h, hz1, Int.toNat_natCast, Nat.mul_one]
  rfl

theorem sym_le_any (g o bl bc : Nat) (bs : Nat → Int) (w : World) (hg : g < w.heap.size) (hbc : bl ≤ bc) (hbl : bc ≤ 2000) (h : Bytes w g o bl bs) :
    Calls Yba.prog 5 #[hdr (some ⟨g, o, none⟩) bl bc (.iface 24 (.agg #[]))] w fun e w' =>
      e = .returned (.tuple #[.int .u64 (if 12 ≤ bl then leAt bs 8 else 0), .int .u64 (if 16 ≤ bl then leAt bs 12 else 0), .bool (decide (16 ≤ bl))]) ∧ Below w.heap.size w w' := by
  by_cases h12 : 12 ≤ bl
  · by_cases h16 : 16 ≤ bl
    · simpa [h12, h16] using sym_le_full g o bl bc bs w hg h16 hbc hbl h
    · simpa [h12, h16] using sym_le_mid g o bl bc bs w hg h12 (by omega) hbc hbl h
  · have h16 : ¬ 16 ≤ bl := by omega
    refine (sym_short (some ⟨g, o, none⟩) bl bc (.iface 24 (.agg #[])) w (by omega)).mono ?_
    rintro e w' ⟨rfl, o1, o2, rfl⟩
    simp only [h12, h16]
    exact ⟨rfl, ((Below.refl _ _).alloc (Nat.le_refl _) _).alloc (by simp) _⟩

theorem add_mk (g o j : Nat) : (⟨g, o, none⟩ : Addr).add j = ⟨g, o + j, none⟩ := by unfold Addr.add; split <;> simp_all

/-- A row of bytes as a list of cells. -/
def byteCells (bs : Nat → Int) (n : Nat) : List Value := (List.range n).map fun j => Value.int .u8 (bs j)

theorem copy_bytes (g o n cap : Nat) (bs : Nat → Int) (w : World) (h : Bytes w g o n bs) :
    ∃ w2, (Builtin.copy_ #[22, 22] 3 #[.slice (some ⟨w.heap.size, 0, none⟩) n n, .slice (some ⟨g, o, none⟩) n cap]).run Yba.prog (w.alloc (.cells (madeCells #[.int .u8 0] n) 5)) = .ok (goInt n) w2 ∧
      Below w.heap.size w w2 ∧ Bytes w2 w.heap.size 0 n bs ∧ w2.heap.size = w.heap.size + 1 := by
  obtain ⟨w2, h1, h2, h3, h4⟩ := copy_fresh (P := Yba.prog) 22 5 3 Yba.underlying22 size5 w n cap (some ⟨g, o, none⟩) (byteCells bs n) (by simp [byteCells])
    (fun _ => ⟨_, rfl, fun j v hv => by
      have hj : j < n := by have := (List.getElem?_eq_some_iff.1 hv).1; simpa [byteCells] using this
      simp [byteCells, hj] at hv
      subst hv
      rw [add_mk]
      exact h.at j hj⟩)
    (fun v hv => by
      simp [byteCells] at hv
      obtain ⟨j, _, rfl⟩ := hv
      rfl) (.int .u8 0)
  refine ⟨w2, h1, h3, fun j hj => ⟨?_, h.bd j hj⟩, h4⟩
  have := cell_of_row w2 w.heap.size (0 + j) _ _ _ h2
  rw [this]
  simp [byteCells, hj]

set_option maxHeartbeats 400000 in
theorem law_pos (g o n cap : Nat) (bs : Nat → Int) (w : World) (hg : g < w.heap.size) (hn : 0 < n) (hn2 : n ≤ 1024) (hcap : n ≤ cap) (h : Bytes w g o n bs) :
    Calls Yba.prog 3 #[.slice (some ⟨g, o, none⟩) n cap] w fun e w' => e = .returned (.bool true) ∧ Below w.heap.size w w' := by
  have hmk := make_n n hn2
  obtain ⟨w2, hcp, hb2, hc2, hs2⟩ := copy_bytes g o n cap bs w h
  have HS : Hid (w2.heap.size = w.heap.size + 1) := hs2
  clear hs2
  go_enter Yba.func3, Yba.ntmps3
  go_wp2_with fail
  refine (sym_le_any w.heap.size 0 n n bs _ (by simp; have := HS.out; omega) (Nat.le_refl _) (by omega) (hc2.below ((Below.refl w2.heap.size _).alloc (Nat.le_refl _) _) (by have := HS.out; omega))).mono ?_
  rintro e w3 ⟨rfl, hb3⟩
  have hbA : Below w2.heap.size w2 w3 := ((Below.refl _ _).alloc (Nat.le_refl _) _).trans (hb3.mono (by simp))
  have hbB : Below w.heap.size w w3 := hb2.trans (hbA.mono (by have := HS.out; omega))
  have hcc : Bytes w3 w.heap.size 0 n bs := hc2.below hbA (by have := HS.out; omega)
  have hbb : Bytes w3 g o n bs := h.below hbB hg
  clear hb3 hbA hc2 hb2 hcp hmk
  generalize hv1 : (if 12 ≤ n then leAt bs 8 else 0) = v1
  generalize hv2 : (if 16 ≤ n then leAt bs 12 else 0) = v2
  generalize hv3 : decide (16 ≤ n) = v3
  have H1 : Hid ((if 12 ≤ n then leAt bs 8 else 0) = v1) := hv1
  have H2 : Hid ((if 16 ≤ n then leAt bs 12 else 0) = v2) := hv2
  have H3 : Hid (decide (16 ≤ n) = v3) := hv3
  clear hv1 hv2 hv3
  go_wp2
  go_loopw [36] (fun i wr => ∃ k m : Nat, k ≤ n ∧ i = .int .i64 k ∧ wr = w3.drewN m) (fun i _ => n - (intOf i).toNat)
  case atStart => exact ⟨0, 0, Nat.zero_le _, rfl, rfl⟩
  case round =>
    obtain ⟨k, m, hk, rfl, rfl⟩ := hrel
    by_cases hlt : k < n
    · have e1 : w3.cell? ⟨w.heap.size, k, none⟩ = some (.int .u8 (bs k)) := by have := hcc.at k hlt; rwa [Nat.zero_add] at this
      have e2 := hbb.at k hlt
      have hlt' : (k : Int) < (n : Int) := by omega
      go_wp2
      go_quiet (fail)
      go_wp2
      go_roundw
      case rel => exact ⟨k + 1, _, by omega, by go_num, rfl⟩
      case measure => simp [intOf]; omega
    · have hnk : ¬ (k : Int) < (n : Int) := by omega
      have hB := below_drewN hbB m
      by_cases h12 : 12 ≤ n
      · have h12' : (12 : Int) ≤ (n : Int) := by omega
        by_cases h16 : 16 ≤ n
        · have h16' : (16 : Int) ≤ (n : Int) := by omega
          obtain rfl : leAt bs 8 = v1 := by have := H1.out; rwa [if_pos h12] at this
          obtain rfl : leAt bs 12 = v2 := by have := H2.out; rwa [if_pos h16] at this
          obtain rfl : true = v3 := by have := H3.out; rwa [decide_eq_true h16] at this
          go_wp2_with fail
          refine (ale_at g o n cap 8 bs _ (by omega) (by omega) (by exact hbb)).mono ?_
          rintro e w4 ⟨rfl, m1, rfl⟩
          go_wp2_with fail
          refine (ale_at g o n cap 12 bs _ (by omega) (by omega) (by exact hbb)).mono ?_
          rintro e w4 ⟨rfl, m2, rfl⟩
          go_wp2
          go_ret
          exact ⟨rfl, below_drewN hbB _⟩
        · have h16' : ¬ (16 : Int) ≤ (n : Int) := by omega
          obtain rfl : leAt bs 8 = v1 := by have := H1.out; rwa [if_pos h12] at this
          obtain rfl : 0 = v2 := by have := H2.out; rwa [if_neg h16] at this
          obtain rfl : false = v3 := by have := H3.out; rwa [decide_eq_false h16] at this
          go_wp2_with fail
          refine (ale_at g o n cap 8 bs _ (by omega) (by omega) (by exact hbb)).mono ?_
          rintro e w4 ⟨rfl, m1, rfl⟩
          go_wp2
          go_ret
          exact ⟨rfl, below_drewN hbB _⟩
      · have h12' : ¬ (12 : Int) ≤ (n : Int) := by omega
        have h16 : ¬ 16 ≤ n := by omega
        have h16' : ¬ (16 : Int) ≤ (n : Int) := by omega
        obtain rfl : 0 = v1 := by have := H1.out; rwa [if_neg h12] at this
        obtain rfl : 0 = v2 := by have := H2.out; rwa [if_neg h16] at this
        obtain rfl : false = v3 := by have := H3.out; rwa [decide_eq_false h16] at this
        go_wp2
        go_ret
        exact ⟨rfl, hB⟩

end Go.Proofs.Ybulkblxc
