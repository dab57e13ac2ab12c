import Derived.Test.YbulkblxcFmtBPlain
import Derived.Test.YbulkblxcFmtBBytes
import Derived.Deep.CutRange
import Derived.Deep.LoopGhost
namespace Go.Proofs.YbulkblxcFmt
open Go.RowKit
set_option linter.unusedVariables false

theorem ret_bool {a b : Bool} (h : a = b) : Ending.returned (.bool a) = .returned (.bool b) := by rw [h]

set_option maxHeartbeats 400000 in
theorem size_any (R : Nat) (n : Int) (w : World) (hc : w.cell? ⟨R, 1, none⟩ = some (.int .u64 n)) :
    Calls Ybaf.prog 24 #[.pointer (some ⟨R, 0, none⟩)] w fun e w' => e = .returned (.int .u64 n) ∧ w' = w := by
  go_enter Ybaf.func24, Ybaf.ntmps24
  go_wp2
  go_ret
  exact ⟨rfl, rfl⟩

set_option maxHeartbeats 1000000 in
theorem share_any (s t : ByteArray) (a n b m : Nat) (w : World) (h1 : a + n ≤ 1000000) (h2 : b + m ≤ 1000000) :
    Calls Ybaf.prog 26 #[.agg #[.string s, .int .u64 (a : Int), .int .u64 (n : Int)], .agg #[.string t, .int .u64 (b : Int), .int .u64 (m : Int)]] w fun e w' => e = .returned (.bool (meets a n b m)) ∧ Below w.heap.size w w' := by
  have hb : Below w.heap.size w ((w.alloc (.cells #[.string s, .int .u64 (a : Int), .int .u64 (n : Int)] 38)).alloc (.cells #[.string t, .int .u64 (b : Int), .int .u64 (m : Int)] 38)) := ((Below.refl _ _).alloc (Nat.le_refl _) _).alloc (by simp) _
  by_cases c1 : 0 < n
  · by_cases c2 : 0 < m
    · by_cases c3 : a < b + m
      · by_cases c4 : b < a + n
        · have k1 : (0 : Int) < n := by omega
          have k2 : (0 : Int) < m := by omega
          have k3 : (a : Int) < (b : Int) + (m : Int) := by omega
          have k4 : (b : Int) < (a : Int) + (n : Int) := by omega
          go_enter Ybaf.func26, Ybaf.ntmps26
          go_wp2
          go_ret
          exact ⟨ret_bool (by simp [meets, c1, c2, c3, c4]), hb⟩
        · have k1 : (0 : Int) < n := by omega
          have k2 : (0 : Int) < m := by omega
          have k3 : (a : Int) < (b : Int) + (m : Int) := by omega
          have k4 : ¬ (b : Int) < (a : Int) + (n : Int) := by omega
          go_enter Ybaf.func26, Ybaf.ntmps26
          go_wp2
          go_ret
          exact ⟨ret_bool (by simp [meets, c4]), hb⟩
      · have k1 : (0 : Int) < n := by omega
        have k2 : (0 : Int) < m := by omega
        have k3 : ¬ (a : Int) < (b : Int) + (m : Int) := by omega
        go_enter Ybaf.func26, Ybaf.ntmps26
        go_wp2
        go_ret
        exact ⟨ret_bool (by simp [meets, c3]), hb⟩
    · have k1 : (0 : Int) < n := by omega
      have k2 : ¬ (0 : Int) < m := by omega
      go_enter Ybaf.func26, Ybaf.ntmps26
      go_wp2
      go_ret
      exact ⟨ret_bool (by simp [meets, c2]), hb⟩
  · have k1 : ¬ (0 : Int) < n := by omega
    go_enter Ybaf.func26, Ybaf.ntmps26
    go_wp2
    go_ret
    exact ⟨ret_bool (by simp [meets, c1]), hb⟩

set_option maxHeartbeats 1000000 in
theorem meet_any (a n b m : Nat) (w : World) (h1 : a + n ≤ 1000000) (h2 : b + m ≤ 1000000) :
    Calls Ybaf.prog 10 #[.int .u64 (a : Int), .int .u64 (n : Int), .int .u64 (b : Int), .int .u64 (m : Int)] w fun e w' => e = .returned (.bool (meets a n b m)) ∧ w' = w := by
  by_cases c1 : 0 < n
  · by_cases c2 : 0 < m
    · have k1 : ¬ (n : Int) = 0 := by omega
      have k2 : ¬ (m : Int) = 0 := by omega
      have k3 : max (a : Int) (b : Int) = ((max a b : Nat) : Int) := by omega
      have k4 : min ((a : Int) + (n : Int)) ((b : Int) + (m : Int)) = ((min (a + n) (b + m) : Nat) : Int) := by omega
      go_enter Ybaf.func10, Ybaf.ntmps10
      clear k3 k4
      have k5 : ((n : Int) == 0) = false := by simp; omega
      have k6 : ((m : Int) == 0) = false := by simp; omega
      go_wp2
      all_goals
        go_ret
        exact ⟨ret_bool (by unfold meets; rw [decide_eq_true c1, decide_eq_true c2, Bool.true_and, Bool.true_and, Bool.eq_iff_iff]; simp only [Bool.and_eq_true, decide_eq_true_eq]; omega), rfl⟩
    · have k1 : ¬ (n : Int) = 0 := by omega
      obtain rfl : m = 0 := by omega
      go_enter Ybaf.func10, Ybaf.ntmps10
      go_wp2
      go_ret
      exact ⟨ret_bool (by simp [meets]), rfl⟩
  · obtain rfl : n = 0 := by omega
    go_enter Ybaf.func10, Ybaf.ntmps10
    go_wp2
    go_ret
    exact ⟨ret_bool (by simp [meets]), rfl⟩

/-- A Member in a block of its own. -/
def MemAt (w : World) (B : Nat) (s : ByteArray) (a n : Nat) : Prop := w.heap[B]? = some (.cells #[.string s, .int .u64 (a : Int), .int .u64 (n : Int)] 38 (0, 0))
theorem MemAt.c {w : World} {B : Nat} {s : ByteArray} {a n : Nat} (h : MemAt w B s a n) (j : Nat) : w.cell? ⟨B, j, none⟩ = (#[.string s, .int .u64 (a : Int), .int .u64 (n : Int)] : Array Value)[j]? := cell_of_row _ _ _ _ _ _ h
theorem MemAt.free {w : World} {B : Nat} {s : ByteArray} {a n : Nat} (h : MemAt w B s a n) (j : Nat) : w.frozen? ⟨B, j, none⟩ = false := by
  have h' : w.heap[B]? = _ := h
  simp [World.frozen?, h']
theorem MemAt.below {B0 : Nat} {w w' : World} {B : Nat} {s : ByteArray} {a n : Nat} (h : MemAt w B s a n) (hb : Below B0 w w') (hB : B < B0) : MemAt w' B s a n := (hb.block B hB).trans h
theorem MemAt.lt {w : World} {B : Nat} {s : ByteArray} {a n : Nat} (h : MemAt w B s a n) : B < w.heap.size := (Array.getElem?_eq_some_iff.1 h).1

set_option maxHeartbeats 400000 in
theorem pred_any (Bm : Nat) (s t : ByteArray) (a n b m : Nat) (w : World) (hm : MemAt w Bm s a n) (h1 : a + n ≤ 1000000) (h2 : b + m ≤ 1000000) :
    Calls Ybaf.prog 28 #[.agg #[.string t, .int .u64 (b : Int), .int .u64 (m : Int)], .pointer (some ⟨Bm, 0, none⟩)] w fun e w' => e = .returned (.bool (meets a n b m)) ∧ Below w.heap.size w w' := by
  have c0 := hm.c 0
  have c1 := hm.c 1
  have c2 := hm.c 2
  have hlt := hm.lt
  have hsh := share_any s t a n b m (w.alloc (.cells #[.string t, .int .u64 (b : Int), .int .u64 (m : Int)] 38)) h1 h2
  go_enter Ybaf.func28, Ybaf.ntmps28
  go_wp2_with (go_at_call 26; refine hsh.mono ?_; rintro e w' ⟨rfl, hb⟩)
  go_ret
  exact ⟨rfl, ((Below.refl _ _).alloc (Nat.le_refl _) _).trans ((by assumption : Below _ _ _).mono (by simp))⟩

theorem findIdx_hit {ms : List Mb} {a n k : Nat} (hk : k < ms.length) (hno : ∀ (j : Nat) (hj : j < k) (hj2 : j < ms.length), meets a n ms[j].off ms[j].size = false) (hyes : meets a n ms[k].off ms[k].size = true) :
    ms.findIdx? (fun p => meets a n p.off p.size) = some k := by
  rw [List.findIdx?_eq_some_iff_getElem]
  refine ⟨hk, hyes, fun j hj => ?_⟩
  rw [hno j hj (by omega)]
  decide
theorem findIdx_miss {ms : List Mb} {a n : Nat} (hno : ∀ (j : Nat) (hj : j < ms.length) (hj2 : j < ms.length), meets a n ms[j].off ms[j].size = false) :
    ms.findIdx? (fun p => meets a n p.off p.size) = none := by
  rw [List.findIdx?_eq_none_iff]
  intro x hx
  obtain ⟨j, hj, rfl⟩ := List.getElem_of_mem hx
  exact hno j hj hj

def idxOf (ms : List Mb) (a n : Nat) : Int := match ms.findIdx? (fun p => meets a n p.off p.size) with | some j => (j : Int) | none => -1

set_option maxHeartbeats 1000000 in
theorem index_any (gm cap Bm : Nat) (s : ByteArray) (a n fs : Nat) (ms : List Mb) (w : World) (hm : MemAt w Bm s a n) (h1 : a + n ≤ 1000000) (hfs : fs ≤ 1000000) (hok : ∀ p ∈ ms, MbOk fs p) (hl : ms.length ≤ 1000) (ho : OwnAt w 38 3 gm ms.length cap (msCells ms)) :
    Calls Ybaf.prog 27 #[.slice (some ⟨gm, 0, none⟩) ms.length cap, .func (.func 28) #[] #[.pointer (some ⟨Bm, 0, none⟩)]] w fun e w' => e = .returned (.int .i64 (idxOf ms a n)) ∧ Below w.heap.size w w' := by
  go_enter Ybaf.func27, Ybaf.ntmps27
  go_wp2
  go_loopw [8] (fun i wr => ∃ k : Nat, k ≤ ms.length ∧ i = .int .i64 k ∧ (∀ (j : Nat) (hj : j < k) (hj2 : j < ms.length), meets a n ms[j].off ms[j].size = false) ∧ Below w.heap.size w wr) (fun i _ => ms.length - (intOf i).toNat)
  case atStart => exact ⟨0, Nat.zero_le _, rfl, fun j hj _ => by omega, Below.refl _ _⟩
  case round =>
    obtain ⟨k, hk, rfl, hno, hb⟩ := hrel
    by_cases hlt : k < ms.length
    · have hlt' : (k : Int) < (ms.length : Int) := by omega
      have hor := ho.below hb ho.lt
      obtain ⟨m0, m1, m2⟩ := msCells_at ms k hlt
      have e0 := hor.cell _ _ m0
      have e1 := hor.cell _ _ m1
      have e2 := hor.cell _ _ m2
      have hmr := hm.below hb hm.lt
      have hokk := hok _ (List.getElem_mem hlt)
      have hp := pred_any Bm s (nameK ms[k].k) a n ms[k].off ms[k].size wr hmr h1 (by have := hokk.1; omega)
      clear hor hmr ho m0 m1 m2
      cases hyes : meets a n ms[k].off ms[k].size
      · rw [hyes] at hp
        have HY : Hid (meets a n ms[k].off ms[k].size = false) := hyes
        clear hyes
        go_wp2_with fail
        refine hp.mono ?_
        rintro e w2 ⟨rfl, hb2⟩
        have hb3 := hb.trans (hb2.mono hb.size)
        clear hp hb hb2
        go_wp2
        go_roundw
        case rel =>
          refine ⟨k + 1, by omega, by go_num, fun j hj hj2 => ?_, hb3⟩
          rcases (by omega : j < k ∨ j = k) with h | h
          · exact hno j h hj2
          · subst h; exact HY.out
        case measure => simp [intOf]; omega
      · rw [hyes] at hp
        have HI : Hid (idxOf ms a n = (k : Int)) := by show _ = _; rw [idxOf, findIdx_hit hlt hno hyes]
        clear hyes
        go_wp2_with fail
        refine hp.mono ?_
        rintro e w2 ⟨rfl, hb2⟩
        have hb3 := hb.trans (hb2.mono hb.size)
        clear hp hb hb2
        go_wp2
        go_ret
        exact ⟨ret_int HI.out.symm, hb3⟩
    · have hlt' : ¬ (k : Int) < (ms.length : Int) := by omega
      obtain rfl : k = ms.length := by omega
      have HI : Hid (idxOf ms a n = -1) := by show _ = _; rw [idxOf, findIdx_miss hno]
      go_wp2
      go_ret
      exact ⟨ret_int HI.out.symm, hb⟩
end Go.Proofs.YbulkblxcFmt
