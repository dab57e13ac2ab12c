import Derived.Test.YbulkblxcOrd
import Derived.Deep.RegionWith
import Derived.OpenShut
namespace Go.Proofs.Ybulkblxc
open Go.RowKit
set_option linter.unusedVariables false

set_option maxHeartbeats 400000 in
theorem uint_short (ba : Option Addr) (bl bc : Nat) (od : Value) (off : Int) (w : World) (h0 : 0 ≤ off) (hoff : off ≤ 100) (hs : (bl : Int) < off + 4) :
    Calls Yba.prog 7 #[.agg #[.slice ba bl bc, od], .int .i64 off, .int .i64 4] w fun e w' => e = .returned (.tuple #[.int .u64 0, .bool false]) ∧
      w' = w.alloc (.cells #[.slice ba bl bc, od] 28) := by
  go_enter Yba.func7, Yba.ntmps7
  go_wp2
  go_ret2
  exact ⟨rfl, rfl⟩

theorem method_ord (a : Addr) (w : World) : (method 170 37 (.pointer (some a)) "Uint32").run Yba.prog w = .ok (34, .pointer (some a)) w := by kernel_rfl

/-- The order is as it was behind new blocks and a draw. -/
theorem LogAt.kept {B b0 g : Nat} {a1 a2 : Int} {k : Nat} {xs : List Value} {lg : Value} {w : World} (H : LogAt B b0 g a1 a2 k xs lg w) (o : Obj) : LogAt B b0 g a1 a2 k xs lg (w.alloc o).drew := by
  have hB := H.hB
  have hb0 := H.hb0
  have hg := H.hg
  refine ⟨hB, by simp; omega, hg, H.hgB, ?_, ?_, ?_, ?_, ?_, ?_, ?_, H.own.alloc o⟩
  · exact (World.cell?_alloc_past o B 0 (by omega)).trans H.h0
  · exact (World.cell?_alloc_past o B 1 (by omega)).trans H.h1
  · exact (World.cell?_alloc_past o B 2 (by omega)).trans H.h2
  · exact (World.frozen?_alloc_past o B 0 (by omega)).trans H.f0
  · exact (World.frozen?_alloc_past o B 2 (by omega)).trans H.f2
  · exact (World.cell?_alloc_past o g 0 (by omega)).trans H.ans0
  · exact (World.cell?_alloc_past o g 1 (by omega)).trans H.ans1

theorem LogPost.behind {B b0 g : Nat} {a1 a2 : Int} {k : Nat} {xs : List Value} {w w' : World} (o : Obj) (hb0 : b0 ≤ w.heap.size) (H : LogPost B b0 g a1 a2 k xs (w.alloc o).drew w') : LogPost B b0 g a1 a2 k xs w w' := by
  obtain ⟨lb, lc, h1, h2⟩ := H
  refine ⟨lb, lc, h1, h2.os, h2.tape, h2.output, ?_, ?_⟩
  · have := h2.size; simp at this; omega
  · intro j hj hne
    exact (h2.block j hj hne).trans (Below.heap_alloc _ _ _ (by omega))

theorem wrap_u64_small {a : Int} (h0 : 0 ≤ a) (h1 : a ≤ 4294967295) : IntKind.u64.wrap a = a := by
  rw [IntKind.wrap_u64]
  omega

set_option maxHeartbeats 400000 in
theorem uint_ord (B b0 g : Nat) (lg : Value) (k : Nat) (hk : k = 0 ∨ k = 1) (xs : List Value) (a1 a2 : Int) (w1 : (Lit.int .u32 a1).wf = true) (w2 : (Lit.int .u32 a2).wf = true) (ba : Addr) (bl bc : Nat) (off : Int) (w : World) (h0 : 0 ≤ off) (hoff : off ≤ 100) (hs : off + 4 ≤ (bl : Int)) (hbc : bl ≤ bc) (hbl : bc ≤ 1000)
    (H : LogAt B b0 g a1 a2 k xs lg w) :
    Calls Yba.prog 7 #[.agg #[.slice (some ba) bl bc, .iface 37 (.pointer (some ⟨B, 0, none⟩))], .int .i64 off, .int .i64 4] w fun e w' => e = .returned (.tuple #[.int .u64 (if k = 0 then a1 else a2), .bool true]) ∧
      LogPost B b0 g a1 a2 (k + 1) (xs ++ [.int .i64 ((bl - off.toNat : Nat) : Int)]) w w' := by
  have hm := method_ord
  have HK : Hid (k = 0 ∨ k = 1) := hk
  clear hk
  obtain ⟨av, hav⟩ : ∃ av, av = if k = 0 then a1 else a2 := ⟨_, rfl⟩
  have bav : 0 ≤ av ∧ av ≤ 4294967295 := by
    have b1 := bounds_u32 w1
    have b2 := bounds_u32 w2
    subst hav; split <;> omega
  rw [← hav]
  have hwr : IntKind.u64.wrap av = av := wrap_u64_small bav.1 bav.2
  have HAV : Hid (av = if k = 0 then a1 else a2) := hav
  clear hav
  go_enter Yba.func7, Yba.ntmps7
  go_wp2
  go_region_with (go_at_call 34; refine (ord_any B b0 g lg k HK.out xs a1 a2 _ _ _ _ (H.kept _)).mono ?_; rw [← HAV.out]; rintro e w' ⟨rfl, hp⟩)
  all_goals
    go_wp2
    go_ret2
    exact ⟨rfl, LogPost.behind _ H.hb0 hp⟩
end Go.Proofs.Ybulkblxc
