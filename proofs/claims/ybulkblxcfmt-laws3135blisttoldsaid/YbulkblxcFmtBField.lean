import Derived.Test.YbulkblxcFmtBBytes
import Derived.Deep.CutRange
import Derived.Deep.RegionHeld
namespace Go.Proofs.YbulkblxcFmt
open Go.RowKit
set_option linter.unusedVariables false

/-- The eight bytes from off on, the greatest first. -/
def be8 (bs : Nat → Int) (off : Nat) : Int := be4 bs off * 4294967296 + be4 bs (off + 4)

theorem be8_u64 {b0 b1 b2 b3 b4 b5 b6 b7 : Int} (h0 : 0 ≤ b0 ∧ b0 ≤ 255) (h1 : 0 ≤ b1 ∧ b1 ≤ 255) (h2 : 0 ≤ b2 ∧ b2 ≤ 255) (h3 : 0 ≤ b3 ∧ b3 ≤ 255) (h4 : 0 ≤ b4 ∧ b4 ≤ 255) (h5 : 0 ≤ b5 ∧ b5 ≤ 255) (h6 : 0 ≤ b6 ∧ b6 ≤ 255) (h7 : 0 ≤ b7 ∧ b7 ≤ 255) :
    bits .or .u64 (bits .or .u64 (bits .or .u64 (bits .or .u64 (bits .or .u64 (bits .or .u64 (bits .or .u64 b7 (b6 * 256)) (b5 * 65536)) (b4 * 16777216)) (b3 * 4294967296)) (b2 * 1099511627776)) (b1 * 281474976710656)) (b0 * 72057594037927936) = le4 b3 b2 b1 b0 * 4294967296 + le4 b7 b6 b5 b4 := by
  simp (disch := omega) only [u64_or8, u64_or16, u64_or24, u64_or32, u64_or40, u64_or48, u64_or56]
  unfold le4
  omega

set_option maxHeartbeats 800000 in
theorem be_uint64 (g o n c : Nat) (bs : Nat → Int) (w : World) (hn : 8 ≤ n) (h : Bytes w g o n bs) :
    Calls Ybaf.prog 69 #[.agg #[], .slice (some ⟨g, o, none⟩) n c] w fun e w' => e = .returned (.int .u64 (le4 (bs 3) (bs 2) (bs 1) (bs 0) * 4294967296 + le4 (bs 7) (bs 6) (bs 5) (bs 4))) ∧ ∃ nq, w' = (w.alloc (.cells #[] 28)).drewN nq := by
  have e0 := cellOld (.cells #[] 28) (h.at 0 (by omega))
  have e1 := cellOld (.cells #[] 28) (h.at 1 (by omega))
  have e2 := cellOld (.cells #[] 28) (h.at 2 (by omega))
  have e3 := cellOld (.cells #[] 28) (h.at 3 (by omega))
  have e4 := cellOld (.cells #[] 28) (h.at 4 (by omega))
  have e5 := cellOld (.cells #[] 28) (h.at 5 (by omega))
  have e6 := cellOld (.cells #[] 28) (h.at 6 (by omega))
  have e7 := cellOld (.cells #[] 28) (h.at 7 (by omega))
  have h0 := h.bd 0 (by omega)
  have h1 := h.bd 1 (by omega)
  have h2 := h.bd 2 (by omega)
  have h3 := h.bd 3 (by omega)
  have h4 := h.bd 4 (by omega)
  have h5 := h.bd 5 (by omega)
  have h6 := h.bd 6 (by omega)
  have h7 := h.bd 7 (by omega)
  have hn7 : (7 : Int) < (n : Int) := by omega
  have hn6 : (6 : Int) < (n : Int) := by omega
  have hn5 : (5 : Int) < (n : Int) := by omega
  have hn4 : (4 : Int) < (n : Int) := by omega
  have hn3 : (3 : Int) < (n : Int) := by omega
  have hn2 : (2 : Int) < (n : Int) := by omega
  have hn1 : (1 : Int) < (n : Int) := by omega
  have hn0 : (0 : Int) < (n : Int) := by omega
  rw [Nat.add_zero] at e0
  clear h
  go_enter Ybaf.func69, Ybaf.ntmps69
  go_wp2
  go_quiet (fail)
  go_wp2
  go_ret
  exact ⟨ret_int (be8_u64 h0 h1 h2 h3 h4 h5 h6 h7), nq, rfl⟩

theorem methodU32 (v : Value) (w : World) : (Go.method 289 28 v "Uint32").run Ybaf.prog w = .ok (13, v) w := by kernel_rfl
theorem methodU64 (v : Value) (w : World) : (Go.method 289 28 v "Uint64").run Ybaf.prog w = .ok (69, v) w := by kernel_rfl

set_option maxHeartbeats 400000 in
set_option maxRecDepth 100000 in
theorem uint4 (T o len cap off : Nat) (tb : Nat → Int) (w : World) (h : Bytes w T o len tb) (hT : T < w.heap.size) (hfit : off + 4 ≤ len) (hlen : len ≤ 1000000) (hcap : len ≤ cap) :
    Calls Ybaf.prog 22 #[.agg #[.slice (some ⟨T, o, none⟩) len cap, .iface 28 (.agg #[])], .int .i64 (off : Int), .int .i64 4] w fun e w' => e = .returned (.tuple #[.int .u64 (be4 tb off), .bool true]) ∧ Below w.heap.size w w' := by
  have hme := methodU32
  have hrow : Bytes w T (o + off) (len - off) (fun j => tb (off + j)) := fun j hj => by
    have h1 := h (off + j) (by omega)
    rw [Nat.add_assoc]
    exact h1
  have HROW : Hid (∀ wx, Below w.heap.size w wx → Bytes wx T (o + off) (len - off) (fun j => tb (off + j))) := fun wx hx => hrow.below hx hT
  have HQ : Hid (le4 ((fun j => tb (off + j)) 3) ((fun j => tb (off + j)) 2) ((fun j => tb (off + j)) 1) ((fun j => tb (off + j)) 0) = be4 tb off) := rfl
  have bd : 0 ≤ be4 tb off ∧ be4 tb off ≤ 4294967295 := le4_bd (h.bd _ (by omega)) (h.bd _ (by omega)) (h.bd _ (by omega)) (h.bd _ (by omega))
  have hw := wrap_u64_small bd.1 bd.2
  have h4 : ¬ (len : Int) < (off : Int) + 4 := by omega
  have hne : ¬ cap = off := by omega
  have hl : (off : Int) ≤ (len : Int) := by omega
  clear h hrow
  obtain ⟨q, hq⟩ : ∃ q, be4 tb off = q := ⟨_, rfl⟩
  rw [hq] at HQ bd hw ⊢
  clear hq
  go_enter Ybaf.func22, Ybaf.ntmps22
  go_upto_region 7 with fail
  go_region_held (fun w' => w'.cell? ⟨w.heap.size, 0, none⟩ = some (.slice (some ⟨T, o, none⟩) len cap) ∧ w'.cell? ⟨w.heap.size, 1, none⟩ = some (.iface 28 (.agg #[]))) ((refine ⟨?_, ?_⟩) <;> simp) (first | (go_at_call 13; refine (be_uint32 T (o + off) (len - off) (cap - off) (fun j => tb (off + j)) _ (by omega) (HROW.out _ (by repeat (first | exact Below.refl _ _ | refine below_drewN ?_ _ | refine Below.drew ?_ | refine Below.alloc ?_ (by simp) _)))).mono ?_; rw [HQ.out]; rintro e w' ⟨rfl, nq, rfl⟩))
  go_wp2
  go_ret2
  exact ⟨rfl, below_drewN (((Below.refl _ _).alloc (Nat.le_refl _) _).alloc (by simp) _) _⟩

set_option maxHeartbeats 400000 in
set_option maxRecDepth 100000 in
theorem uint8 (T o len cap off : Nat) (tb : Nat → Int) (w : World) (h : Bytes w T o len tb) (hT : T < w.heap.size) (hfit : off + 8 ≤ len) (hlen : len ≤ 1000000) (hcap : len ≤ cap) :
    Calls Ybaf.prog 22 #[.agg #[.slice (some ⟨T, o, none⟩) len cap, .iface 28 (.agg #[])], .int .i64 (off : Int), .int .i64 8] w fun e w' => e = .returned (.tuple #[.int .u64 (be8 tb off), .bool true]) ∧ Below w.heap.size w w' := by
  have hme := methodU64
  have hrow : Bytes w T (o + off) (len - off) (fun j => tb (off + j)) := fun j hj => by
    have h1 := h (off + j) (by omega)
    rw [Nat.add_assoc]
    exact h1
  have HROW : Hid (∀ wx, Below w.heap.size w wx → Bytes wx T (o + off) (len - off) (fun j => tb (off + j))) := fun wx hx => hrow.below hx hT
  have HQ : Hid (le4 ((fun j => tb (off + j)) 3) ((fun j => tb (off + j)) 2) ((fun j => tb (off + j)) 1) ((fun j => tb (off + j)) 0) * 4294967296 + le4 ((fun j => tb (off + j)) 7) ((fun j => tb (off + j)) 6) ((fun j => tb (off + j)) 5) ((fun j => tb (off + j)) 4) = be8 tb off) := rfl
  have h4 : ¬ (len : Int) < (off : Int) + 8 := by omega
  have hne : ¬ cap = off := by omega
  have hl : (off : Int) ≤ (len : Int) := by omega
  clear h hrow
  obtain ⟨q, hq⟩ : ∃ q, be8 tb off = q := ⟨_, rfl⟩
  rw [hq] at HQ ⊢
  clear hq
  go_enter Ybaf.func22, Ybaf.ntmps22
  go_upto_region 8 with fail
  go_region_held (fun w' => w'.cell? ⟨w.heap.size, 0, none⟩ = some (.slice (some ⟨T, o, none⟩) len cap) ∧ w'.cell? ⟨w.heap.size, 1, none⟩ = some (.iface 28 (.agg #[]))) ((refine ⟨?_, ?_⟩) <;> simp) (first | (go_at_call 69; refine (be_uint64 T (o + off) (len - off) (cap - off) (fun j => tb (off + j)) _ (by omega) (HROW.out _ (by repeat (first | exact Below.refl _ _ | refine below_drewN ?_ _ | refine Below.drew ?_ | refine Below.alloc ?_ (by simp) _)))).mono ?_; rw [HQ.out]; rintro e w' ⟨rfl, nq, rfl⟩))
  go_wp2
  go_ret2
  exact ⟨rfl, below_drewN (((Below.refl _ _).alloc (Nat.le_refl _) _).alloc (by simp) _) _⟩


/-- A span.Fields in a block of its own. -/
def FieldsAt (w : World) (bF T o len cap : Nat) : Prop := w.heap[bF]? = some (.cells #[.slice (some ⟨T, o, none⟩) len cap, .iface 28 (.agg #[])] 82 (0, 0))
theorem FieldsAt.c {w : World} {bF T o len cap : Nat} (h : FieldsAt w bF T o len cap) (j : Nat) : w.cell? ⟨bF, j, none⟩ = (#[.slice (some ⟨T, o, none⟩) len cap, .iface 28 (.agg #[])] : Array Value)[j]? := cell_of_row _ _ _ _ _ _ h
theorem FieldsAt.below {B : Nat} {w w' : World} {bF T o len cap : Nat} (h : FieldsAt w bF T o len cap) (hb : Below B w w') (hF : bF < B) : FieldsAt w' bF T o len cap := (hb.block bF hF).trans h
theorem FieldsAt.lt {w : World} {bF T o len cap : Nat} (h : FieldsAt w bF T o len cap) : bF < w.heap.size := (Array.getElem?_eq_some_iff.1 h).1

set_option maxHeartbeats 400000 in
theorem field4 (bF T o len cap off : Nat) (tb : Nat → Int) (w : World) (hF : FieldsAt w bF T o len cap) (h : Bytes w T o len tb) (hT : T < w.heap.size) (hfit : off + 4 ≤ len) (hlen : len ≤ 1000000) (hcap : len ≤ cap) :
    Calls Ybaf.prog 21 #[.int .i64 (off : Int), .int .i64 4, .pointer (some ⟨bF, 0, none⟩)] w fun e w' => e = .returned (.int .u64 (be4 tb off)) ∧ Below w.heap.size w w' := by
  have c0 := hF.c 0
  have c1 := hF.c 1
  have hu := uint4 T o len cap off tb w h hT hfit hlen hcap
  go_enter Ybaf.func21, Ybaf.ntmps21
  go_wp2_with (go_at_call 22; refine hu.mono ?_; rintro e w' ⟨rfl, hb⟩)
  go_ret
  exact ⟨rfl, by assumption⟩

set_option maxHeartbeats 400000 in
theorem field8 (bF T o len cap off : Nat) (tb : Nat → Int) (w : World) (hF : FieldsAt w bF T o len cap) (h : Bytes w T o len tb) (hT : T < w.heap.size) (hfit : off + 8 ≤ len) (hlen : len ≤ 1000000) (hcap : len ≤ cap) :
    Calls Ybaf.prog 21 #[.int .i64 (off : Int), .int .i64 8, .pointer (some ⟨bF, 0, none⟩)] w fun e w' => e = .returned (.int .u64 (be8 tb off)) ∧ Below w.heap.size w w' := by
  have c0 := hF.c 0
  have c1 := hF.c 1
  have hu := uint8 T o len cap off tb w h hT hfit hlen hcap
  go_enter Ybaf.func21, Ybaf.ntmps21
  go_wp2_with (go_at_call 22; refine hu.mono ?_; rintro e w' ⟨rfl, hb⟩)
  go_ret
  exact ⟨rfl, by assumption⟩

end Go.Proofs.YbulkblxcFmt
