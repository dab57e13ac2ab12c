import Derived.Test.YbulkblxcFmtRows
import Derived.WalkKit
import Derived.WalkSpells
import Derived.WalkLawsBesides
import Derived.OpenShut
import Derived.Deep.QuietTactic
import Derived.BigQuiet
import Derived.Deep.RegionWith
import Derived.Laws.CopyOwn
import Derived.Lib.EndianBits
namespace Go.Proofs.YbulkblxcFmt
open Go.RowKit
set_option linter.unusedVariables false

theorem cellOld {w : World} {a : Addr} {v : Value} (o : Obj) (h : w.cell? a = some v) : (w.alloc o).cell? a = some v :=
  (World.cell?_alloc_lt w o a (World.block_lt_of_cell? w a h)).trans h

theorem add_mk (g o j : Nat) : (⟨g, o, none⟩ : Addr).add j = ⟨g, o + j, none⟩ := by unfold Addr.add; split <;> simp_all

/-- The bytes of a row. -/
def Bytes (w : World) (g o n : Nat) (bs : Nat → Int) : Prop := ∀ j, j < n → w.cell? ⟨g, o + j, none⟩ = some (.int .u8 (bs j)) ∧ 0 ≤ bs j ∧ bs j ≤ 255

theorem Bytes.at {w : World} {g o n : Nat} {bs : Nat → Int} (h : Bytes w g o n bs) (j : Nat) (hj : j < n) : w.cell? ⟨g, o + j, none⟩ = some (.int .u8 (bs j)) := (h j hj).1
theorem Bytes.bd {w : World} {g o n : Nat} {bs : Nat → Int} (h : Bytes w g o n bs) (j : Nat) (hj : j < n) : 0 ≤ bs j ∧ bs j ≤ 255 := (h j hj).2
theorem Bytes.below {B : Nat} {w w' : World} {g o n : Nat} {bs : Nat → Int} (h : Bytes w g o n bs) (hb : Below B w w') (hg : g < B) : Bytes w' g o n bs := fun j hj => ⟨(hb.cell (p := ⟨g, o + j, none⟩) hg).trans (h j hj).1, (h j hj).2⟩
theorem Bytes.of_block {w w' : World} {g o n : Nat} {bs : Nat → Int} (h : Bytes w g o n bs) (hb : w'.heap[g]? = w.heap[g]?) : Bytes w' g o n bs := fun j hj => ⟨(World.cell?_of_block (a := ⟨g, o + j, none⟩) hb).trans (h j hj).1, (h j hj).2⟩

set_option maxHeartbeats 400000 in
theorem new_any (t : TypeId) (p : Addr) (n : Int) (w : World) (h0 : 0 ≤ n) (hn : n ≤ 1000000) :
    Calls Ybaf.prog 11 #[.iface t (.pointer (some p)), .int .i64 n] w fun e w' => e = .returned (.pointer (some ⟨w.heap.size, 0, none⟩)) ∧ w' = w.alloc (.cells #[.iface t (.pointer (some p)), .int .u64 n] 70) := by
  go_enter Ybaf.func11, Ybaf.ntmps11
  go_wp2
  go_ret
  exact ⟨rfl, rfl⟩

set_option maxHeartbeats 400000 in
theorem check_ok (R : Nat) (off n size : Int) (w : World) (h0 : 0 ≤ off) (h1 : 0 ≤ n) (hs : size ≤ 1000000) (hfit : off + n ≤ size) (hc : w.cell? ⟨R, 1, none⟩ = some (.int .u64 size)) :
    Calls Ybaf.prog 33 #[.pointer (some ⟨R, 0, none⟩), .int .u64 off, .int .u64 n] w fun e w' => e = .returned .nilIface ∧ w' = w := by
  have a1 : ¬ size < off := by omega
  have a2 : ¬ size - off < n := by omega
  go_enter Ybaf.func33, Ybaf.ntmps33
  go_wp2
  go_ret
  exact ⟨rfl, rfl⟩

/-- The *OutsideError that Check makes. -/
abbrev outBox (off n size : Int) : Obj := .cells #[.int .u64 off, .int .u64 n, .int .u64 size] 127

set_option maxHeartbeats 400000 in
theorem check_out (R : Nat) (off n size : Int) (w : World) (h0 : 0 ≤ off) (h1 : 0 ≤ n) (hz : 0 ≤ size) (hs : size ≤ 1000000) (hfit : size < off + n) (ho : size < off ∨ off ≤ size) (hc : w.cell? ⟨R, 1, none⟩ = some (.int .u64 size)) :
    Calls Ybaf.prog 33 #[.pointer (some ⟨R, 0, none⟩), .int .u64 off, .int .u64 n] w fun e w' => e = .returned (.iface 99 (.pointer (some ⟨w.heap.size, 0, none⟩))) ∧ w' = w.alloc (outBox off n size) := by
  rcases ho with ho | ho
  · go_enter Ybaf.func33, Ybaf.ntmps33
    go_wp2
    go_ret
    exact ⟨rfl, rfl⟩
  · have a1 : ¬ size < off := by omega
    have a2 : size - off < n := by omega
    go_enter Ybaf.func33, Ybaf.ntmps33
    go_wp2
    go_ret
    exact ⟨rfl, rfl⟩

/-- How many of n bytes at off lie inside a file of that size. -/
def inN (size off n : Int) : Int := if off + n ≤ size then n else if off < size then size - off else 0

set_option maxHeartbeats 400000 in
theorem inside_ok (R : Nat) (off n size : Int) (w : World) (h0 : 0 ≤ off) (h1 : 0 ≤ n) (hs : size ≤ 1000000) (hfit : off + n ≤ size) (hc : w.cell? ⟨R, 1, none⟩ = some (.int .u64 size)) :
    Calls Ybaf.prog 41 #[.pointer (some ⟨R, 0, none⟩), .int .u64 off, .int .u64 n] w fun e w' => e = .returned (.tuple #[.int .u64 n, .nilIface]) ∧ w' = w := by
  go_enter Ybaf.func41, Ybaf.ntmps41
  go_wp2_with (go_at_call 33; refine (check_ok R off n size _ h0 h1 hs hfit (by exact hc)).mono ?_; rintro e w' ⟨rfl, rfl⟩)
  go_ret2
  exact ⟨rfl, rfl⟩

set_option maxHeartbeats 400000 in
theorem inside_out (R : Nat) (off n size : Int) (w : World) (h0 : 0 ≤ off) (h1 : 0 ≤ n) (hz : 0 ≤ size) (hs : size ≤ 1000000) (hfit : size < off + n) (hc : w.cell? ⟨R, 1, none⟩ = some (.int .u64 size)) :
    Calls Ybaf.prog 41 #[.pointer (some ⟨R, 0, none⟩), .int .u64 off, .int .u64 n] w fun e w' => e = .returned (.tuple #[.int .u64 (if off < size then size - off else 0), .iface 99 (.pointer (some ⟨w.heap.size, 0, none⟩))]) ∧ w' = w.alloc (outBox off n size) := by
  have hR := World.block_lt_of_cell? w _ hc
  by_cases ho : off < size
  · rw [if_pos ho]
    go_enter Ybaf.func41, Ybaf.ntmps41
    go_wp2_with (go_at_call 33; refine (check_out R off n size _ h0 h1 hz hs hfit (by omega) (by exact hc)).mono ?_; rintro e w' ⟨rfl, rfl⟩)
    go_ret2
    exact ⟨rfl, rfl⟩
  · rw [if_neg ho]
    go_enter Ybaf.func41, Ybaf.ntmps41
    go_wp2_with (go_at_call 33; refine (check_out R off n size _ h0 h1 hz hs hfit (by omega) (by exact hc)).mono ?_; rintro e w' ⟨rfl, rfl⟩)
    go_ret2
    exact ⟨rfl, rfl⟩

end Go.Proofs.YbulkblxcFmt
