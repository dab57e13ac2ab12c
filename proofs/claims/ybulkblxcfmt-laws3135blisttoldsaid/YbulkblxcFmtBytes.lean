import Derived.Test.YbulkblxcFmtAs
import Derived.Laws.BytesArg
import Derived.Lib.Bytes
namespace Go.Proofs.YbulkblxcFmt
open Go.RowKit
set_option linter.unusedVariables false

/-! ### (*Reader).Bytes -/
set_option maxHeartbeats 400000 in
theorem bytes_ok (R C D o n cap k off m : Nat) (bs : Nat → Int) (w : World) (H : RdAt R C D o n cap bs false k w) (hk : k ≤ 1000) (hm : 0 < m) (hfit : off + m ≤ n) :
    Calls Ybaf.prog 19 #[.pointer (some ⟨R, 0, none⟩), .int .u64 off, .int .u64 m] w fun e w' => e = .returned (.tuple #[.slice (some ⟨w.heap.size, 0, none⟩) m m, .nilIface]) ∧ Got R C D o n cap bs false (k + 1) off m w w.heap.size w' := by
  go_enter Ybaf.func19, Ybaf.ntmps19
  go_wp2_with (go_at_call 34; refine (into_ok R C D o n cap k off m bs w H hk hm hfit).mono ?_; rintro e w' ⟨rfl, hg⟩)
  go_ret2
  exact ⟨rfl, hg⟩

set_option maxHeartbeats 400000 in
theorem bytes_part (R C D o n cap k off q m : Nat) (bs : Nat → Int) (w : World) (H : RdAt R C D o n cap bs false k w) (hk : k ≤ 1000) (hoff : off < n) (hq : n < off + q) (hm : m = n - off) :
    Calls Ybaf.prog 19 #[.pointer (some ⟨R, 0, none⟩), .int .u64 off, .int .u64 q] w fun e w' => e = .returned (.tuple #[.slice (some ⟨w.heap.size + 1, 0, none⟩) m m, .iface 99 (.pointer (some ⟨w.heap.size, 0, none⟩))]) ∧ Got R C D o n cap bs false (k + 1) off m (w.alloc (outBox off q n)) (w.heap.size + 1) w' := by
  have HM : Hid (m = n - off) := hm
  clear hm
  go_enter Ybaf.func19, Ybaf.ntmps19
  go_wp2_with (go_at_call 34; refine (into_part R C D o n cap k off q m bs w H hk hoff hq HM.out).mono ?_; rintro e w' ⟨rfl, hg⟩)
  go_ret2
  exact ⟨rfl, hg⟩

set_option maxHeartbeats 400000 in
theorem bytes_none (R C D o n cap k off q : Nat) (bs : Nat → Int) (fl : Bool) (w : World) (H : RdAt R C D o n cap bs fl k w) (hoff : n ≤ off) (hq : 0 < q) :
    Calls Ybaf.prog 19 #[.pointer (some ⟨R, 0, none⟩), .int .u64 off, .int .u64 q] w fun e w' => e = .returned (.tuple #[.slice none 0 0, .iface 99 (.pointer (some ⟨w.heap.size, 0, none⟩))]) ∧ w' = w.alloc (outBox off q n) := by
  go_enter Ybaf.func19, Ybaf.ntmps19
  go_wp2_with (go_at_call 34; refine (into_none R C D o n cap k off q bs fl w H hoff hq).mono ?_; rintro e w' ⟨rfl, rfl⟩)
  go_ret2
  exact ⟨rfl, rfl⟩

/-! ### string(b) -/
def nums (bs : Nat → Int) (n : Nat) : List Int := (List.range n).map bs
theorem nums_length (bs : Nat → Int) (n : Nat) : (nums bs n).length = n := by simp [nums]
theorem conv_bytes (w : World) (g o n c : Nat) (bs : Nat → Int) (h : Bytes w g o n bs) : (Go.convert 26 9 (.slice (some ⟨g, o, none⟩) n c)).run Ybaf.prog w = .ok (.string (strOfNums (nums bs n))) w := by
  refine run_convert_bytes_arg (P := Ybaf.prog) w 26 5 Ybaf.underlying26 Ybaf.underlying5 g o n c (nums bs n) (nums_length bs n) (fun i hi => ?_) 9 Ybaf.underlying9
  rw [h.at i hi]
  simp [nums, List.getD, hi]
theorem conv_nil (w : World) (l c : Nat) : (Go.convert 26 9 (.slice none l c)).run Ybaf.prog w = .ok (.string ByteArray.empty) w :=
  run_convert_bytes_nil (P := Ybaf.prog) w 26 5 Ybaf.underlying26 Ybaf.underlying5 l c 9 Ybaf.underlying9

/-! ### bytes.Equal -/
set_option maxHeartbeats 400000 in
theorem equal_any (a b : Value) (s t : ByteArray) (w : World) (ha : (Go.convert 26 9 a).run Ybaf.prog w = .ok (.string s) w) (hb : (Go.convert 26 9 b).run Ybaf.prog w = .ok (.string t) w) :
    Calls Ybaf.prog 35 #[a, b] w fun e w' => e = .returned (.bool (s.toList == t.toList)) ∧ w' = w := by
  go_enter Ybaf.func35, Ybaf.ntmps35
  go_wp2
  go_outline
  go_ret
  exact ⟨rfl, rfl⟩

end Go.Proofs.YbulkblxcFmt
