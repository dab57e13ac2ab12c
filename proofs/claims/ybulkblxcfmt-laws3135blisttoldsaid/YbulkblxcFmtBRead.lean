import Derived.Test.YbulkblxcFmtRead
import Derived.Laws.CopyOwn
namespace Go.Proofs.YbulkblxcFmt
open Go.RowKit
set_option linter.unusedVariables false

/-- A Reader over a zzs3135bfile over n bytes. -/
structure RbAt (R C D o n cap : Nat) (bs : Nat → Int) (fl : Bool) (w : World) : Prop where
  r0 : w.cell? ⟨R, 0, none⟩ = some (.iface 41 (.pointer (some ⟨C, 0, none⟩)))
  r1 : w.cell? ⟨R, 1, none⟩ = some (.int .u64 (n : Int))
  c0 : w.cell? ⟨C, 0, none⟩ = some (.slice (some ⟨D, o, none⟩) n cap)
  c1 : w.cell? ⟨C, 1, none⟩ = some (.bool fl)
  data : Bytes w D o n bs
  hD : D < w.heap.size
  hn : n ≤ 1000000
  hcap : n ≤ cap
  hcm : cap ≤ 1000000

theorem RbAt.hR {R C D o n cap : Nat} {bs : Nat → Int} {fl : Bool} {w : World} (h : RbAt R C D o n cap bs fl w) : R < w.heap.size := World.block_lt_of_cell? w _ h.r0
theorem RbAt.hC {R C D o n cap : Nat} {bs : Nat → Int} {fl : Bool} {w : World} (h : RbAt R C D o n cap bs fl w) : C < w.heap.size := World.block_lt_of_cell? w _ h.c0
theorem RbAt.below {R C D o n cap : Nat} {bs : Nat → Int} {fl : Bool} {w w' : World} (h : RbAt R C D o n cap bs fl w) (hb : Below w.heap.size w w') : RbAt R C D o n cap bs fl w' :=
  ⟨(hb.cell (p := ⟨R, 0, none⟩) h.hR).trans h.r0, (hb.cell (p := ⟨R, 1, none⟩) h.hR).trans h.r1, (hb.cell (p := ⟨C, 0, none⟩) h.hC).trans h.c0, (hb.cell (p := ⟨C, 1, none⟩) h.hC).trans h.c1,
    h.data.below hb h.hD, Nat.lt_of_lt_of_le h.hD hb.size, h.hn, h.hcap, h.hcm⟩

set_option maxHeartbeats 400000 in
set_option maxRecDepth 100000 in
theorem bread_ok (C D o n cap B m off : Nat) (cur : Array Value) (bs : Nat → Int) (w : World) (hn : n ≤ 1000000) (hcap : n ≤ cap) (hcm : cap ≤ 1000000) (hm : 0 < m) (hfit : off + m ≤ n)
    (h0 : w.cell? ⟨C, 0, none⟩ = some (.slice (some ⟨D, o, none⟩) n cap)) (h1 : w.cell? ⟨C, 1, none⟩ = some (.bool false))
    (hd : Bytes w D o n bs) (hB : w.heap[B]? = some (.cells cur 5 (0, 0))) (hsz : cur.size = m) :
    Calls Ybaf.prog 70 #[.pointer (some ⟨C, 0, none⟩), .slice (some ⟨B, 0, none⟩) m m, .int .i64 off] w fun e w' => e = .returned (.tuple #[.int .i64 m, .nilIface]) ∧
      w' = w.setRow B (byteCells (fun j => bs (off + j)) m).toArray := by
  have hcp := copy_into w B m D (o + off) (n - off) (cap - off) cur (fun j => bs (off + j)) hB hsz (by omega)
    (fun j hj => by
      have := hd (off + j) (by omega)
      rw [Nat.add_assoc]
      exact this)
  generalize hwx : w.setRow B (byteCells (fun j => bs (off + j)) m).toArray = wx at *
  clear hB hsz hd hwx cur bs
  have a1 : ¬ (n : Int) < (off : Int) := by omega
  have a2 : ¬ (off : Int) < 0 := by omega
  go_enter Ybaf.func70, Ybaf.ntmps70
  go_wp2
  go_ret2
  exact ⟨rfl, rfl⟩

/-- What a read leaves: the bytes in a new row B. -/
structure GotB (n : Nat) (bs : Nat → Int) (off m : Nat) (w : World) (B : Nat) (w' : World) : Prop where
  bel : Below w.heap.size w w'
  row : Bytes w' B 0 m (fun j => bs (off + j))
  new : w.heap.size ≤ B
  here : B < w'.heap.size

theorem gotB_world {R C D o n cap : Nat} {bs : Nat → Int} {fl : Bool} {off m : Nat} {w : World} (h : RbAt R C D o n cap bs fl w) (hfit : off + m ≤ n) (cur : Array Value) :
    GotB n bs off m w w.heap.size ((w.alloc (.cells cur 5)).setRow w.heap.size (byteCells (fun j => bs (off + j)) m).toArray) := by
  have hrow : ((w.alloc (.cells cur 5)).setRow w.heap.size (byteCells (fun j => bs (off + j)) m).toArray).heap[w.heap.size]? = some (.cells (byteCells (fun j => bs (off + j)) m).toArray 5 (0, 0)) :=
    setRow_heap _ _ cur _ 5 (0, 0) (heap_alloc_new w _)
  refine ⟨below_setRow ((Below.refl _ _).alloc (Nat.le_refl _) _) (Nat.le_refl _) _, ?_, Nat.le_refl _, (Array.getElem?_eq_some_iff.1 hrow).1⟩
  intro j hj
  refine ⟨?_, (h.data.bd (off + j) (by omega))⟩
  rw [cell_of_row _ w.heap.size (0 + j) _ _ _ hrow]
  simp [byteCells, hj]

theorem method_readB (a : Addr) (w : World) : (method 289 41 (.pointer (some a)) "ReadAt").run Ybaf.prog w = .ok (70, .pointer (some a)) w := by kernel_rfl

set_option maxHeartbeats 400000 in
set_option maxRecDepth 100000 in
theorem binto_ok (R C D o n cap off m : Nat) (bs : Nat → Int) (w : World) (H : RbAt R C D o n cap bs false w) (hm : 0 < m) (hfit : off + m ≤ n) :
    Calls Ybaf.prog 34 #[.pointer (some ⟨R, 0, none⟩), .slice none 0 0, .int .u64 off, .int .u64 m] w fun e w' => e = .returned (.tuple #[.slice (some ⟨w.heap.size, 0, none⟩) m m, .nilIface]) ∧ GotB n bs off m w w.heap.size w' := by
  have hn := H.hn
  have hmk := make_bytes .u64 m (by omega)
  have hme := method_readB
  have r0 := H.r0
  have r1 := H.r1
  have hR := H.hR
  have hC := H.hC
  have Hb := H.below ((Below.refl _ _).alloc (Nat.le_refl _) (.cells (madeCells #[.int .u8 0] m) 5))
  have hg := gotB_world H hfit (madeCells #[.int .u8 0] m)
  have hrd := bread_ok C D o n cap w.heap.size m off (madeCells #[.int .u8 0] m) bs (w.alloc (.cells (madeCells #[.int .u8 0] m) 5)) hn H.hcap H.hcm hm hfit Hb.c0 Hb.c1 Hb.data (heap_alloc_new w _) (size_madeCells _ _)
  generalize hwx : (w.alloc (.cells (madeCells #[.int .u8 0] m) 5)).setRow w.heap.size (byteCells (fun j => bs (off + j)) m).toArray = wx at hg hrd
  clear hwx Hb
  have HR : Hid (Calls Ybaf.prog 70 #[.pointer (some ⟨C, 0, none⟩), .slice (some ⟨w.heap.size, 0, none⟩) m m, .int .i64 off] (w.alloc (.cells (madeCells #[.int .u8 0] m) 5)) fun e w' => e = .returned (.tuple #[.int .i64 m, .nilIface]) ∧ w' = wx) := hrd
  clear hrd
  go_enter Ybaf.func34, Ybaf.ntmps34
  go_wp2_with (first | (go_at_call 41; refine (inside_ok R off m n _ (by omega) (by omega) (by omega) (by omega) (by exact r1)).mono ?_; rintro e w' ⟨rfl, hw'⟩; subst hw') | (go_at_call 70; refine HR.out.mono ?_; rintro e w' ⟨rfl, rfl⟩))
  go_ret2
  exact ⟨rfl, hg⟩

set_option maxHeartbeats 400000 in
set_option maxRecDepth 100000 in
theorem binto_part (R C D o n cap off q m : Nat) (bs : Nat → Int) (w : World) (H : RbAt R C D o n cap bs false w) (hoff : off < n) (hq : n < off + q) (hm : m = n - off) :
    Calls Ybaf.prog 34 #[.pointer (some ⟨R, 0, none⟩), .slice none 0 0, .int .u64 off, .int .u64 q] w fun e w' => e = .returned (.tuple #[.slice (some ⟨w.heap.size + 1, 0, none⟩) m m, .iface 99 (.pointer (some ⟨w.heap.size, 0, none⟩))]) ∧ GotB n bs off m (w.alloc (outBox off q n)) (w.heap.size + 1) w' := by
  have hn := H.hn
  have hmk := make_bytes .u64 m (by omega)
  have hme := method_readB
  have r0 := H.r0
  have r1 := H.r1
  have hR := H.hR
  have hC := H.hC
  have H1 := H.below ((Below.refl _ _).alloc (Nat.le_refl _) (outBox off q n))
  have Hb := H1.below ((Below.refl _ _).alloc (Nat.le_refl _) (.cells (madeCells #[.int .u8 0] m) 5))
  have hg := gotB_world (off := off) (m := m) H1 (by omega) (madeCells #[.int .u8 0] m)
  have hrd := bread_ok C D o n cap (w.alloc (outBox off q n)).heap.size m off (madeCells #[.int .u8 0] m) bs ((w.alloc (outBox off q n)).alloc (.cells (madeCells #[.int .u8 0] m) 5)) hn H.hcap H.hcm (by omega) (by omega) Hb.c0 Hb.c1 Hb.data (heap_alloc_new _ _) (size_madeCells _ _)
  rw [show (w.alloc (outBox off q n)).heap.size = w.heap.size + 1 from by simp] at hg hrd
  generalize hwx : ((w.alloc (outBox off q n)).alloc (.cells (madeCells #[.int .u8 0] m) 5)).setRow (w.heap.size + 1) (byteCells (fun j => bs (off + j)) m).toArray = wx at hg hrd
  clear hwx Hb H1
  have HR : Hid (Calls Ybaf.prog 70 #[.pointer (some ⟨C, 0, none⟩), .slice (some ⟨w.heap.size + 1, 0, none⟩) m m, .int .i64 off] ((w.alloc (outBox off q n)).alloc (.cells (madeCells #[.int .u8 0] m) 5)) fun e w' => e = .returned (.tuple #[.int .i64 m, .nilIface]) ∧ w' = wx) := hrd
  clear hrd
  have hpos : 0 < m := by omega
  have he : ((n : Int) - (off : Int)) = (m : Int) := by omega
  have HE : Hid (((n : Int) - (off : Int)) = (m : Int)) := he
  have HM : Hid (m = n - off) := hm
  clear he hm
  have hoff' : (off : Int) < (n : Int) := by omega
  go_enter Ybaf.func34, Ybaf.ntmps34
  go_wp2_with (first | (go_at_call 41; refine (inside_out R off q n _ (by omega) (by omega) (by omega) (by omega) (by omega) (by exact r1)).mono ?_; rw [if_pos hoff', HE.out]; rintro e w' ⟨rfl, hw'⟩; subst hw') | (go_at_call 70; refine HR.out.mono ?_; rintro e w' ⟨rfl, rfl⟩))
  go_ret2
  exact ⟨rfl, hg⟩

set_option maxHeartbeats 400000 in
set_option maxRecDepth 100000 in
/-- A range that begins past the file's end, or at it with something asked: nothing, and the error. -/
theorem binto_none (R C D o n cap off q : Nat) (bs : Nat → Int) (fl : Bool) (w : World) (H : RbAt R C D o n cap bs fl w) (hoff : n ≤ off) (hq : n < off + q) :
    Calls Ybaf.prog 34 #[.pointer (some ⟨R, 0, none⟩), .slice none 0 0, .int .u64 off, .int .u64 q] w fun e w' => e = .returned (.tuple #[.slice none 0 0, .iface 99 (.pointer (some ⟨w.heap.size, 0, none⟩))]) ∧ w' = w.alloc (outBox off q n) := by
  have hn := H.hn
  have r1 := H.r1
  have hoff' : ¬ (off : Int) < (n : Int) := by omega
  go_enter Ybaf.func34, Ybaf.ntmps34
  go_wp2_with (go_at_call 41; refine (inside_out R off q n _ (by omega) (by omega) (by omega) (by omega) (by omega) (by exact r1)).mono ?_; rw [if_neg hoff']; rintro e w' ⟨rfl, rfl⟩)
  go_ret2
  exact ⟨rfl, rfl⟩

set_option maxHeartbeats 400000 in
set_option maxRecDepth 100000 in
/-- Nothing asked, inside the file: nothing read, no error. -/
theorem binto_zero (R C D o n cap off : Nat) (bs : Nat → Int) (fl : Bool) (w : World) (H : RbAt R C D o n cap bs fl w) (hoff : off ≤ n) :
    Calls Ybaf.prog 34 #[.pointer (some ⟨R, 0, none⟩), .slice none 0 0, .int .u64 off, .int .u64 0] w fun e w' => e = .returned (.tuple #[.slice none 0 0, .nilIface]) ∧ w' = w := by
  have hn := H.hn
  have r1 := H.r1
  go_enter Ybaf.func34, Ybaf.ntmps34
  go_wp2_with (go_at_call 41; refine (inside_ok R off 0 n _ (by omega) (by omega) (by omega) (by omega) (by exact r1)).mono ?_; rintro e w' ⟨rfl, rfl⟩)
  go_ret2
  exact ⟨rfl, rfl⟩

end Go.Proofs.YbulkblxcFmt
