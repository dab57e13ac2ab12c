import Derived.Test.YbulkblxcUint
namespace Go.Proofs.Ybulkblxc
open Go.RowKit
set_option linter.unusedVariables false

/-- A header over these bytes in this order, all else zero. -/
abbrev hdr (ba : Option Addr) (bl bc : Nat) (od : Value) : Value := .agg #[.slice ba bl bc, od, .int .u64 0, .bool false, .slice none 0 0, .nilIface, .int .i64 0, .int .u64 0, .bool false]

/-- A fresh order (nothing asked yet), a new block behind it: the bound may be raised over the new block. -/
theorem LogAt.fresh {B b0 g : Nat} {a1 a2 : Int} {w : World} (H : LogAt B b0 g a1 a2 0 [] (.slice none 0 0) w) (o : Obj) : LogAt B (w.heap.size + 1) g a1 a2 0 [] (.slice none 0 0) (w.alloc o) := by
  have hB := H.hB
  have hb0 := H.hb0
  have hg := H.hg
  refine ⟨by omega, by simp, by omega, H.hgB, ?_, ?_, ?_, ?_, ?_, ?_, ?_, World.ownsRow_nil _ _ _ _⟩
  · exact (World.cell?_alloc_past o B 0 (by omega)).trans H.h0
  · exact (World.cell?_alloc_past o B 1 (by omega)).trans H.h1
  · exact (World.cell?_alloc_past o B 2 (by omega)).trans H.h2
  · exact (World.frozen?_alloc_past o B 0 (by omega)).trans H.f0
  · exact (World.frozen?_alloc_past o B 2 (by omega)).trans H.f2
  · exact (World.cell?_alloc_past o g 0 (by omega)).trans H.ans0
  · exact (World.cell?_alloc_past o g 1 (by omega)).trans H.ans1

theorem LogAt.lower {B b0 b1 g : Nat} {a1 a2 : Int} {k : Nat} {xs : List Value} {lg : Value} {w : World} (H : LogAt B b1 g a1 a2 k xs lg w) (hB : B < b0) (hg : g < b0) (hb : b0 ≤ b1) : LogAt B b0 g a1 a2 k xs lg w := by
  have := H.hb0
  refine ⟨hB, by omega, hg, H.hgB, H.h0, H.h1, H.h2, H.f0, H.f2, H.ans0, H.ans1, H.own.1, ?_⟩
  rcases H.own.2 with h | ⟨g, cap, cur, h1, h2, r⟩
  · exact .inl h
  · exact .inr ⟨g, cap, cur, h1, by omega, r⟩

theorem KeptBut.lower {B b0 b1 : Nat} {w w' : World} (o : Obj) (H : KeptBut B b1 (w.alloc o) w') (hb : b0 ≤ b1) (hb0 : b0 ≤ w.heap.size) : KeptBut B b0 w w' := by
  refine ⟨H.os, H.tape, H.output, by have := H.size; simp at this; omega, fun k hk hne => (H.block k (by omega) hne).trans (Below.heap_alloc _ _ _ (by omega))⟩

theorem KeptBut.trans {B b0 : Nat} {a b c : World} (h : KeptBut B b0 a b) (k : KeptBut B b0 b c) : KeptBut B b0 a c :=
  ⟨k.os.trans h.os, k.tape.trans h.tape, k.output.trans h.output, Nat.le_trans h.size k.size, fun i hi hne => (k.block i hi hne).trans (h.block i hi hne)⟩

set_option maxHeartbeats 400000 in
theorem sym_short (ba : Option Addr) (bl bc : Nat) (od : Value) (w : World) (hs : bl < 12) :
    Calls Yba.prog 5 #[hdr ba bl bc od] w fun e w' => e = .returned (.tuple #[.int .u64 0, .int .u64 0, .bool false]) ∧ ∃ o1 o2, w' = (w.alloc o1).alloc o2 := by
  go_enter Yba.func5, Yba.ntmps5
  go_wp2_with (go_at_call 7; refine (uint_short _ _ _ _ _ _ (by omega) (by omega) (by omega)).mono ?_; rintro e w' ⟨rfl, rfl⟩)
  go_ret3
  exact ⟨rfl, _, _, rfl⟩

theorem KeptBut.cellAt {B b1 : Nat} {w w' : World} {c : Array Value} {t : TypeId} (H : KeptBut B b1 (w.alloc (.cells c t)) w') (hB : B < w.heap.size) (hb : w.heap.size < b1) (i : Nat) : w'.cell? ⟨w.heap.size, i, none⟩ = c[i]? :=
  (World.cell?_of_block (a := ⟨w.heap.size, i, none⟩) (H.block w.heap.size hb (by omega))).trans (World.cell?_alloc_at c t _ i rfl)

theorem KeptBut.alloc {B b0 : Nat} {a w : World} (H : KeptBut B b0 a w) (o : Obj) (hb : b0 ≤ w.heap.size) : KeptBut B b0 a (w.alloc o) :=
  ⟨H.os, H.tape, H.output, by have := H.size; simp; omega, fun k hk hne => (Below.heap_alloc _ _ _ (by omega)).trans (H.block k hk hne)⟩

theorem LogAt.undrew {B b0 g : Nat} {a1 a2 : Int} {k : Nat} {xs : List Value} {lg : Value} {w : World} (H : LogAt B b0 g a1 a2 k xs lg w.drew) : LogAt B b0 g a1 a2 k xs lg w :=
  ⟨H.hB, H.hb0, H.hg, H.hgB, H.h0, H.h1, H.h2, H.f0, H.f2, H.ans0, H.ans1, H.own⟩

set_option maxHeartbeats 400000 in
theorem sym_mid (B b0 g : Nat) (a1 a2 : Int) (w1 : (Lit.int .u32 a1).wf = true) (w2 : (Lit.int .u32 a2).wf = true) (ba : Addr) (bl bc : Nat) (w : World) (h12 : 12 ≤ bl) (h16 : bl < 16) (hbc : bl ≤ bc) (hbl : bc ≤ 1000)
    (H : LogAt B b0 g a1 a2 0 [] (.slice none 0 0) w) :
    Calls Yba.prog 5 #[hdr (some ba) bl bc (.iface 37 (.pointer (some ⟨B, 0, none⟩)))] w fun e w' => e = .returned (.tuple #[.int .u64 a1, .int .u64 0, .bool false]) ∧
      LogPost B b0 g a1 a2 1 [.int .i64 ((bl - 8 : Nat) : Int)] w w' := by
  have hB := H.hB
  have hb0 := H.hb0
  have hg := H.hg
  go_enter Yba.func5, Yba.ntmps5
  go_wp2_with fail
  refine (uint_ord B (w.heap.size + 1) g _ 0 (.inl rfl) [] a1 a2 w1 w2 ba bl bc 8 _ (by omega) (by omega) (by omega) hbc hbl (H.fresh _)).mono ?_
  rintro e w3 ⟨rfl, lb, lc, hord, hkb⟩
  have hc0 := KeptBut.cellAt hkb (by omega) (by omega) 0
  have hc1 := KeptBut.cellAt hkb (by omega) (by omega) 1
  go_wp2_with fail
  refine (uint_short _ _ _ _ _ _ (by omega) (by omega) (by omega)).mono ?_
  rintro e w' ⟨rfl, rfl⟩
  go_wp2
  go_ret3
  refine ⟨rfl, lb, lc, ((hord.lower hB hg (by omega)).kept _).undrew, (KeptBut.lower _ hkb (by omega) hb0).alloc _ ?_⟩
  have := hord.hb0
  omega

set_option maxHeartbeats 400000 in
theorem sym_full (B b0 g : Nat) (a1 a2 : Int) (w1 : (Lit.int .u32 a1).wf = true) (w2 : (Lit.int .u32 a2).wf = true) (ba : Addr) (bl bc : Nat) (w : World) (h16 : 16 ≤ bl) (hbc : bl ≤ bc) (hbl : bc ≤ 1000)
    (H : LogAt B b0 g a1 a2 0 [] (.slice none 0 0) w) :
    Calls Yba.prog 5 #[hdr (some ba) bl bc (.iface 37 (.pointer (some ⟨B, 0, none⟩)))] w fun e w' => e = .returned (.tuple #[.int .u64 a1, .int .u64 a2, .bool true]) ∧
      LogPost B b0 g a1 a2 2 [.int .i64 ((bl - 8 : Nat) : Int), .int .i64 ((bl - 12 : Nat) : Int)] w w' := by
  have hB := H.hB
  have hb0 := H.hb0
  have hg := H.hg
  go_enter Yba.func5, Yba.ntmps5
  go_wp2_with fail
  refine (uint_ord B (w.heap.size + 1) g _ 0 (.inl rfl) [] a1 a2 w1 w2 ba bl bc 8 _ (by omega) (by omega) (by omega) hbc hbl (H.fresh _)).mono ?_
  rintro e w3 ⟨rfl, lb, lc, hord, hkb⟩
  have hc0 := KeptBut.cellAt hkb (by omega) (by omega) 0
  have hc1 := KeptBut.cellAt hkb (by omega) (by omega) 1
  go_wp2_with fail
  refine (uint_ord B (w.heap.size + 1) g _ 1 (.inr rfl) _ a1 a2 w1 w2 ba bl bc 12 _ (by omega) (by omega) (by omega) hbc hbl hord).mono ?_
  rintro e w4 ⟨rfl, lb2, lc2, hord2, hkb2⟩
  go_wp2
  go_ret3
  exact ⟨rfl, lb2, lc2, hord2.lower hB hg (by omega), KeptBut.lower _ (hkb.trans hkb2) (by omega) hb0⟩

end Go.Proofs.Ybulkblxc
