import Derived.Test.YbulkblxcFmtBFail
import Derived.Test.YbulkblxcFmtLoc
namespace Go.Proofs.YbulkblxcFmt
open Go.RowKit Go.Extern.Stop Go.Stop Go.Extern
set_option linter.unusedVariables false

/-! ### (*Reader).Bytes over the two-cell file -/
set_option maxHeartbeats 400000 in
theorem bbytes_ok (R C D o n cap off m : Nat) (bs : Nat → Int) (w : World) (H : RbAt R C D o n cap bs false w) (hm : 0 < m) (hfit : off + m ≤ n) :
    Calls Ybaf.prog 19 #[.pointer (some ⟨R, 0, none⟩), .int .u64 off, .int .u64 m] w fun e w' => e = .returned (.tuple #[.slice (some ⟨w.heap.size, 0, none⟩) m m, .nilIface]) ∧ GotB n bs off m w w.heap.size w' := by
  go_enter Ybaf.func19, Ybaf.ntmps19
  go_wp2_with (go_at_call 34; refine (binto_ok R C D o n cap off m bs w H hm hfit).mono ?_; rintro e w' ⟨rfl, hg⟩)
  go_ret2
  exact ⟨rfl, hg⟩

set_option maxHeartbeats 400000 in
theorem bbytes_part (R C D o n cap off q m : Nat) (bs : Nat → Int) (w : World) (H : RbAt R C D o n cap bs false w) (hoff : off < n) (hq : n < off + q) (hm : m = n - off) :
    Calls Ybaf.prog 19 #[.pointer (some ⟨R, 0, none⟩), .int .u64 off, .int .u64 q] w fun e w' => e = .returned (.tuple #[.slice (some ⟨w.heap.size + 1, 0, none⟩) m m, .iface 99 (.pointer (some ⟨w.heap.size, 0, none⟩))]) ∧ GotB n bs off m (w.alloc (outBox off q n)) (w.heap.size + 1) w' := by
  have HM : Hid (m = n - off) := hm
  clear hm
  go_enter Ybaf.func19, Ybaf.ntmps19
  go_wp2_with (go_at_call 34; refine (binto_part R C D o n cap off q m bs w H hoff hq HM.out).mono ?_; rintro e w' ⟨rfl, hg⟩)
  go_ret2
  exact ⟨rfl, hg⟩

set_option maxHeartbeats 400000 in
theorem bbytes_none (R C D o n cap off q : Nat) (bs : Nat → Int) (fl : Bool) (w : World) (H : RbAt R C D o n cap bs fl w) (hoff : n ≤ off) (hq : n < off + q) :
    Calls Ybaf.prog 19 #[.pointer (some ⟨R, 0, none⟩), .int .u64 off, .int .u64 q] w fun e w' => e = .returned (.tuple #[.slice none 0 0, .iface 99 (.pointer (some ⟨w.heap.size, 0, none⟩))]) ∧ w' = w.alloc (outBox off q n) := by
  go_enter Ybaf.func19, Ybaf.ntmps19
  go_wp2_with (go_at_call 34; refine (binto_none R C D o n cap off q bs fl w H hoff hq).mono ?_; rintro e w' ⟨rfl, rfl⟩)
  go_ret2
  exact ⟨rfl, rfl⟩

set_option maxHeartbeats 400000 in
theorem bbytes_zero (R C D o n cap off : Nat) (bs : Nat → Int) (fl : Bool) (w : World) (H : RbAt R C D o n cap bs fl w) (hoff : off ≤ n) :
    Calls Ybaf.prog 19 #[.pointer (some ⟨R, 0, none⟩), .int .u64 off, .int .u64 0] w fun e w' => e = .returned (.tuple #[.slice none 0 0, .nilIface]) ∧ w' = w := by
  go_enter Ybaf.func19, Ybaf.ntmps19
  go_wp2_with (go_at_call 34; refine (binto_zero R C D o n cap off bs fl w H hoff).mono ?_; rintro e w' ⟨rfl, rfl⟩)
  go_ret2
  exact ⟨rfl, rfl⟩

theorem binto_failA (F : Interp) (e0 : Addr) (R C D o n cap off q : Nat) (bs : Nat → Int) (w : World) (hF : F.answers w.tape) (hE : EofAt w e0) (he : e0.block < w.heap.size) (H : RbAt R C D o n cap bs true w) (hoff : off < n) (hq : 0 < q) :
    Calls Ybaf.prog 34 #[.pointer (some ⟨R, 0, none⟩), .slice none 0 0, .int .u64 off, .int .u64 q] w fun e w' => BFailed w e w' := by
  by_cases h : off + q ≤ n
  · exact binto_fail F e0 R C D o n cap off q bs w hF hE he H hq h
  · exact binto_fail_part F e0 R C D o n cap off q (n - off) bs w hF hE he H hoff (by omega) rfl

set_option maxHeartbeats 400000 in
theorem bbytes_fail (F : Interp) (e0 : Addr) (R C D o n cap off q : Nat) (bs : Nat → Int) (w : World) (hF : F.answers w.tape) (hE : EofAt w e0) (he : e0.block < w.heap.size) (H : RbAt R C D o n cap bs true w) (hoff : off < n) (hq : 0 < q) :
    Calls Ybaf.prog 19 #[.pointer (some ⟨R, 0, none⟩), .int .u64 off, .int .u64 q] w fun e w' => BFailed w e w' := by
  have hin := binto_failA F e0 R C D o n cap off q bs w hF hE he H hoff hq
  go_enter Ybaf.func19, Ybaf.ntmps19
  go_wp2_with (go_at_call 34; refine hin.mono ?_; rintro e w' ⟨B, m, p, ab, rfl, hk1, hp⟩)
  go_ret2
  exact ⟨_, _, _, _, rfl, by assumption, by assumption⟩

/-! ### binary.BigEndian.Uint32 -/
/-- The four bytes from off on, the greatest first. -/
def be4 (bs : Nat → Int) (off : Nat) : Int := le4 (bs (off + 3)) (bs (off + 2)) (bs (off + 1)) (bs off)

set_option maxHeartbeats 400000 in
theorem be_uint32 (g o n c : Nat) (bs : Nat → Int) (w : World) (hn : 4 ≤ n) (h : Bytes w g o n bs) :
    Calls Ybaf.prog 13 #[.agg #[], .slice (some ⟨g, o, none⟩) n c] w fun e w' => e = .returned (.int .u32 (le4 (bs 3) (bs 2) (bs 1) (bs 0))) ∧ ∃ nq, w' = (w.alloc (.cells #[] 28)).drewN nq := by
  have e0 := cellOld (.cells #[] 28) (h.at 0 (by omega))
  have e1 := cellOld (.cells #[] 28) (h.at 1 (by omega))
  have e2 := cellOld (.cells #[] 28) (h.at 2 (by omega))
  have e3 := cellOld (.cells #[] 28) (h.at 3 (by omega))
  have h0 := h.bd 0 (by omega)
  have h1 := h.bd 1 (by omega)
  have h2 := h.bd 2 (by omega)
  have h3 := h.bd 3 (by omega)
  have hn3 : (3 : Int) < (n : Int) := by omega
  have hn2 : (2 : Int) < (n : Int) := by omega
  have hn1 : (1 : Int) < (n : Int) := by omega
  have hn0 : (0 : Int) < (n : Int) := by omega
  rw [Nat.add_zero] at e0
  clear h
  go_enter Ybaf.func13, Ybaf.ntmps13
  go_wp2
  go_quiet (fail)
  go_wp2
  go_ret
  exact ⟨ret_int (le4_u32 h3 h2 h1 h0), nq, rfl⟩

end Go.Proofs.YbulkblxcFmt
