import Derived.Test.YbulkblxcFmtSpan
namespace Go.Proofs.YbulkblxcFmt
open Go.RowKit
set_option linter.unusedVariables false

theorem size5 : (Ybaf.prog.info? 5).map (·.size) = some 1 := by kernel_rfl

/-- A row of bytes as a list of cells. -/
def byteCells (bs : Nat → Int) (n : Nat) : List Value := (List.range n).map fun j => Value.int .u8 (bs j)

theorem byteCells_length (bs : Nat → Int) (n : Nat) : (byteCells bs n).length = n := by simp [byteCells]
theorem byteCells_get (bs : Nat → Int) (n j : Nat) (hj : j < n) : (byteCells bs n)[j]? = some (.int .u8 (bs j)) := by simp [byteCells, hj]
theorem byteCells_one (bs : Nat → Int) (n : Nat) : ∀ v ∈ byteCells bs n, v.oneCell' = true := by
  intro v hv
  simp [byteCells] at hv
  obtain ⟨j, _, rfl⟩ := hv
  rfl

/-- 'copy(buf, src)' into a whole row of m cells, src of at least m bytes. -/
theorem copy_into (w : World) (B m D o sl sc : Nat) (cur : Array Value) (bs : Nat → Int) (hB : w.heap[B]? = some (.cells cur 5 (0, 0))) (hsz : cur.size = m) (hm : m ≤ sl)
    (hs : Bytes w D o m bs) :
    (Builtin.copy_ #[26, 26] 3 #[.slice (some ⟨B, 0, none⟩) m m, .slice (some ⟨D, o, none⟩) sl sc]).run Ybaf.prog w = .ok (goInt m) (w.setRow B (byteCells bs m).toArray) := by
  have h := run_copy_row (P := Ybaf.prog) w 26 26 3 5 B 0 m m ⟨D, o, none⟩ sl sc cur 5 (byteCells bs m) Ybaf.underlying26 size5 hB (by rw [byteCells_length]; exact (Nat.min_eq_right hm).symm)
    (fun j v hv => by
      have hj : j < m := by have := (List.getElem?_eq_some_iff.1 hv).1; simpa [byteCells_length] using this
      rw [byteCells_get bs m j hj] at hv
      cases hv
      rw [add_mk]
      exact hs.at j hj) (by rw [byteCells_length]; omega) (byteCells_one bs m)
  rw [byteCells_length] at h
  have hrow : cur.toList.take 0 ++ byteCells bs m ++ cur.toList.drop (0 + m) = byteCells bs m := by
    rw [List.drop_eq_nil_of_le (by simp; omega)]; simp
  rw [hrow] at h
  exact h

set_option maxHeartbeats 400000 in
set_option maxRecDepth 100000 in
theorem read_ok (C D o n cap B m off : Nat) (k : Int) (cur : Array Value) (bs : Nat → Int) (w : World) (hk0 : 0 ≤ k) (hk : k ≤ 1000) (hn : n ≤ 1000000) (hcap : n ≤ cap) (hcm : cap ≤ 1000000) (hm : 0 < m) (hfit : off + m ≤ n)
    (h0 : w.cell? ⟨C, 0, none⟩ = some (.slice (some ⟨D, o, none⟩) n cap)) (h1 : w.cell? ⟨C, 1, none⟩ = some (.int .i64 k)) (h2 : w.cell? ⟨C, 2, none⟩ = some (.bool false)) (f1 : w.frozen? ⟨C, 1, none⟩ = false)
    (hd : Bytes w D o n bs) (hB : w.heap[B]? = some (.cells cur 5 (0, 0))) (hsz : cur.size = m) (hBC : B ≠ C) (hDC : D ≠ C) :
    Calls Ybaf.prog 71 #[.pointer (some ⟨C, 0, none⟩), .slice (some ⟨B, 0, none⟩) m m, .int .i64 off] w fun e w' => e = .returned (.tuple #[.int .i64 m, .nilIface]) ∧
      w' = (w.setCell ⟨C, 1, none⟩ (.int .i64 (k + 1))).setRow B (byteCells (fun j => bs (off + j)) m).toArray := by
  have hcp := copy_into (w.setCell ⟨C, 1, none⟩ (.int .i64 (k + 1))) B m D (o + off) (n - off) (cap - off) cur (fun j => bs (off + j)) (by rw [Below.heap_setCell _ _ _ _ hBC]; exact hB) hsz (by omega)
    (fun j hj => by
      have := hd (off + j) (by omega)
      rw [Nat.add_assoc, World.cell?_setCell_other _ _ _ _ (by intro h; injection h with h; exact hDC h.symm)]
      exact this)
  generalize hwx : (w.setCell ⟨C, 1, none⟩ (.int .i64 (k + 1))).setRow B (byteCells (fun j => bs (off + j)) m).toArray = wx at *
  clear hB hsz hd hwx cur bs
  have a1 : (off : Int) < (n : Int) := by omega
  have a2 : ¬ (off : Int) < 0 := by omega
  go_enter Ybaf.func71, Ybaf.ntmps71
  go_wp2
  go_ret2
  exact ⟨rfl, rfl⟩

/-- All that was there is as it was, but for block C. -/
structure KeepsC (C : Nat) (w w' : World) : Prop where
  os : w'.os = w.os
  tape : w'.tape = w.tape
  output : w'.output = w.output
  size : w.heap.size ≤ w'.heap.size
  block : ∀ k, k < w.heap.size → k ≠ C → w'.heap[k]? = w.heap[k]?

theorem KeepsC.refl (C : Nat) (w : World) : KeepsC C w w := ⟨rfl, rfl, rfl, Nat.le_refl _, fun _ _ _ => rfl⟩
theorem KeepsC.trans {C : Nat} {a b c : World} (h : KeepsC C a b) (k : KeepsC C b c) : KeepsC C a c :=
  ⟨k.os.trans h.os, k.tape.trans h.tape, k.output.trans h.output, Nat.le_trans h.size k.size, fun i hi hne => (k.block i (Nat.lt_of_lt_of_le hi h.size) hne).trans (h.block i hi hne)⟩
theorem KeepsC.of_below {C : Nat} {w w' : World} (h : Below w.heap.size w w') : KeepsC C w w' := ⟨h.os, h.tape, h.output, h.size, fun k hk _ => h.block k hk⟩
theorem KeepsC.alloc {C : Nat} {a w : World} (h : KeepsC C a w) (o : Obj) : KeepsC C a (w.alloc o) := h.trans (KeepsC.of_below ((Below.refl _ _).alloc (Nat.le_refl _) _))
theorem KeepsC.drewN {C : Nat} {a w : World} (h : KeepsC C a w) (n : Nat) : KeepsC C a (w.drewN n) := ⟨h.os, h.tape, h.output, h.size, h.block⟩
theorem KeepsC.cell {C : Nat} {w w' : World} (h : KeepsC C w w') {b i : Nat} (hb : b < w.heap.size) (hne : b ≠ C) : w'.cell? ⟨b, i, none⟩ = w.cell? ⟨b, i, none⟩ := World.cell?_of_block (a := ⟨b, i, none⟩) (h.block b hb hne)
/-- Seen from a world in which block C was not there yet. -/
theorem KeepsC.below {C B : Nat} {w w' : World} (h : KeepsC C w w') (hC : B ≤ C) (hB : B ≤ w.heap.size) : Below B w w' := ⟨h.os, h.tape, h.output, h.size, fun k hk => h.block k (by omega) (by omega)⟩

/-- A Reader over a zzs3135cra over n bytes. -/
structure RdAt (R C D o n cap : Nat) (bs : Nat → Int) (fl : Bool) (k : Nat) (w : World) : Prop where
  r0 : w.cell? ⟨R, 0, none⟩ = some (.iface 55 (.pointer (some ⟨C, 0, none⟩)))
  r1 : w.cell? ⟨R, 1, none⟩ = some (.int .u64 (n : Int))
  c0 : w.cell? ⟨C, 0, none⟩ = some (.slice (some ⟨D, o, none⟩) n cap)
  c1 : w.cell? ⟨C, 1, none⟩ = some (.int .i64 (k : Int))
  c2 : w.cell? ⟨C, 2, none⟩ = some (.bool fl)
  f1 : w.frozen? ⟨C, 1, none⟩ = false
  data : Bytes w D o n bs
  hRC : R ≠ C
  hDC : D ≠ C
  hD : D < w.heap.size
  hn : n ≤ 1000000
  hcap : n ≤ cap
  hcm : cap ≤ 1000000

theorem RdAt.hR {R C D o n cap : Nat} {bs : Nat → Int} {fl : Bool} {k : Nat} {w : World} (h : RdAt R C D o n cap bs fl k w) : R < w.heap.size := World.block_lt_of_cell? w _ h.r0
theorem RdAt.hC {R C D o n cap : Nat} {bs : Nat → Int} {fl : Bool} {k : Nat} {w : World} (h : RdAt R C D o n cap bs fl k w) : C < w.heap.size := World.block_lt_of_cell? w _ h.c0

/-- Nothing of it has turned. -/
theorem RdAt.below {R C D o n cap : Nat} {bs : Nat → Int} {fl : Bool} {k : Nat} {w w' : World} (h : RdAt R C D o n cap bs fl k w) (hb : Below w.heap.size w w') : RdAt R C D o n cap bs fl k w' :=
  ⟨(hb.cell (p := ⟨R, 0, none⟩) h.hR).trans h.r0, (hb.cell (p := ⟨R, 1, none⟩) h.hR).trans h.r1, (hb.cell (p := ⟨C, 0, none⟩) h.hC).trans h.c0, (hb.cell (p := ⟨C, 1, none⟩) h.hC).trans h.c1,
    (hb.cell (p := ⟨C, 2, none⟩) h.hC).trans h.c2, (hb.frozen (p := ⟨C, 1, none⟩) h.hC).trans h.f1, h.data.below hb h.hD, h.hRC, h.hDC, Nat.lt_of_lt_of_le h.hD hb.size, h.hn, h.hcap, h.hcm⟩

/-- What a read leaves: the bytes in a new row B; the reader has counted one call more. -/
structure Got (R C D o n cap : Nat) (bs : Nat → Int) (fl : Bool) (k : Nat) (off m : Nat) (w : World) (B : Nat) (w' : World) : Prop where
  rd : RdAt R C D o n cap bs fl k w'
  kept : KeepsC C w w'
  row : Bytes w' B 0 m (fun j => bs (off + j))
  new : w.heap.size ≤ B
  here : B < w'.heap.size

theorem got_world {R C D o n cap : Nat} {bs : Nat → Int} {fl : Bool} {k off m : Nat} {w : World} (h : RdAt R C D o n cap bs fl k w) (hfit : off + m ≤ n) (cur : Array Value) :
    Got R C D o n cap bs fl (k + 1) off m w w.heap.size (((w.alloc (.cells cur 5)).setCell ⟨C, 1, none⟩ (.int .i64 ((k : Int) + 1))).setRow w.heap.size (byteCells (fun j => bs (off + j)) m).toArray) := by
  have hR := h.hR
  have hC := h.hC
  have hD := h.hD
  have hRC := h.hRC
  have hDC := h.hDC
  have hb : ∀ b, b < w.heap.size → b ≠ C → (((w.alloc (.cells cur 5)).setCell ⟨C, 1, none⟩ (.int .i64 ((k : Int) + 1))).setRow w.heap.size (byteCells (fun j => bs (off + j)) m).toArray).heap[b]? = w.heap[b]? := by
    intro b h1 h2
    rw [setRow_other _ _ _ _ (by omega), Below.heap_setCell _ _ _ _ h2, Below.heap_alloc _ _ _ h1]
  have hCb : (((w.alloc (.cells cur 5)).setCell ⟨C, 1, none⟩ (.int .i64 ((k : Int) + 1))).setRow w.heap.size (byteCells (fun j => bs (off + j)) m).toArray).heap[C]? = ((w.alloc (.cells cur 5)).setCell ⟨C, 1, none⟩ (.int .i64 ((k : Int) + 1))).heap[C]? := setRow_other _ _ _ _ (by omega)
  have c0 := h.c0
  have c1 := h.c1
  have c2 := h.c2
  have f1 := h.f1
  have hrow : (((w.alloc (.cells cur 5)).setCell ⟨C, 1, none⟩ (.int .i64 ((k : Int) + 1))).setRow w.heap.size (byteCells (fun j => bs (off + j)) m).toArray).heap[w.heap.size]? = some (.cells (byteCells (fun j => bs (off + j)) m).toArray 5 (0, 0)) :=
    setRow_heap _ _ cur _ 5 (0, 0) (by rw [Below.heap_setCell _ _ _ _ (by simp; omega)]; exact heap_alloc_new w _)
  refine ⟨⟨?_, ?_, ?_, ?_, ?_, ?_, ?_, hRC, hDC, ?_, h.hn, h.hcap, h.hcm⟩, ⟨rfl, rfl, rfl, by simp [World.setCell], fun b h1 h2 => hb b h1 h2⟩, ?_, Nat.le_refl _, by simp [World.setCell]⟩
  · exact (World.cell?_of_block (a := ⟨R, 0, none⟩) (hb R hR hRC)).trans h.r0
  · exact (World.cell?_of_block (a := ⟨R, 1, none⟩) (hb R hR hRC)).trans h.r1
  · rw [World.cell?_of_block (a := ⟨C, 0, none⟩) hCb]; go_simp
  · rw [World.cell?_of_block (a := ⟨C, 1, none⟩) hCb]; go_simp
  · rw [World.cell?_of_block (a := ⟨C, 2, none⟩) hCb]; go_simp
  · rw [World.frozen?_of_block (a := ⟨C, 1, none⟩) hCb]; go_simp
  · exact h.data.of_block (hb D hD hDC)
  · simp [World.setCell]; omega
  · intro j hj
    refine ⟨?_, (h.data.bd (off + j) (by omega))⟩
    rw [cell_of_row _ w.heap.size (0 + j) _ _ _ hrow]
    simp [byteCells, hj]

theorem info5 : (Ybaf.prog.info? 5).map (fun i => (i.zero, i.size, i.bytes)) = some (some (.int .u8 0), 1, 1) := by kernel_rfl

/-- 'make([]byte, m)', whatever the size's kind. -/
theorem make_bytes (q : IntKind) (m : Nat) (hm : m ≤ 1000000) : ∀ wx, (Instr.makeSlice 26 (.int q (m : Int)) (.int q (m : Int))).run Ybaf.prog wx = .ok (.slice (some ⟨wx.heap.size, 0, none⟩) m m) (wx.alloc (.cells (madeCells #[.int .u8 0] m) 5)) := by
  obtain ⟨i0, hi, hz0, hz1, hz2⟩ := info_parts info5
  intro wx
  have h := run_make (P := Ybaf.prog) (w := wx) 26 5 i0 (.int .u8 0) Ybaf.underlying26 hi hz0 q q (m : Int) (m : Int) (by omega) (by omega) (by rw [hz2]; omega) (by omega)
  rw [h, hz1, Int.toNat_natCast, Nat.mul_one]
  rfl

theorem method_read (a : Addr) (w : World) : (method 289 55 (.pointer (some a)) "ReadAt").run Ybaf.prog w = .ok (71, .pointer (some a)) w := by kernel_rfl

set_option maxHeartbeats 400000 in
set_option maxRecDepth 100000 in
theorem into_ok (R C D o n cap k off m : Nat) (bs : Nat → Int) (w : World) (H : RdAt R C D o n cap bs false k w) (hk : k ≤ 1000) (hm : 0 < m) (hfit : off + m ≤ n) :
    Calls Ybaf.prog 34 #[.pointer (some ⟨R, 0, none⟩), .slice none 0 0, .int .u64 off, .int .u64 m] w fun e w' => e = .returned (.tuple #[.slice (some ⟨w.heap.size, 0, none⟩) m m, .nilIface]) ∧ Got R C D o n cap bs false (k + 1) off m w w.heap.size w' := by
  have hn := H.hn
  have hmk := make_bytes .u64 m (by omega)
  have hme := method_read
  have r0 := H.r0
  have r1 := H.r1
  have hR := H.hR
  have hC := H.hC
  have hD := H.hD
  have Hb := H.below ((Below.refl _ _).alloc (Nat.le_refl _) (.cells (madeCells #[.int .u8 0] m) 5))
  have hg := got_world H hfit (madeCells #[.int .u8 0] m)
  have hrd := read_ok C D o n cap w.heap.size m off k (madeCells #[.int .u8 0] m) bs (w.alloc (.cells (madeCells #[.int .u8 0] m) 5)) (by omega) (by omega) hn H.hcap H.hcm hm hfit Hb.c0 Hb.c1 Hb.c2 Hb.f1 Hb.data (heap_alloc_new w _) (size_madeCells _ _) (by omega) H.hDC
  generalize hwx : ((w.alloc (.cells (madeCells #[.int .u8 0] m) 5)).setCell ⟨C, 1, none⟩ (.int .i64 ((k : Int) + 1))).setRow w.heap.size (byteCells (fun j => bs (off + j)) m).toArray = wx at hg hrd
  clear hwx Hb
  have HR : Hid (Calls Ybaf.prog 71 #[.pointer (some ⟨C, 0, none⟩), .slice (some ⟨w.heap.size, 0, none⟩) m m, .int .i64 off] (w.alloc (.cells (madeCells #[.int .u8 0] m) 5)) fun e w' => e = .returned (.tuple #[.int .i64 m, .nilIface]) ∧ w' = wx) := hrd
  clear hrd
  go_enter Ybaf.func34, Ybaf.ntmps34
  go_wp2_with (first | (go_at_call 41; refine (inside_ok R off m n _ (by omega) (by omega) (by omega) (by omega) (by exact r1)).mono ?_; rintro e w' ⟨rfl, hw'⟩; subst hw') | (go_at_call 71; refine HR.out.mono ?_; rintro e w' ⟨rfl, rfl⟩))
  go_ret2
  exact ⟨rfl, hg⟩

set_option maxHeartbeats 400000 in
set_option maxRecDepth 100000 in
/-- A range that begins inside the file and runs past its end: the part that lies inside, and the error. -/
theorem into_part (R C D o n cap k off q m : Nat) (bs : Nat → Int) (w : World) (H : RdAt R C D o n cap bs false k w) (hk : k ≤ 1000) (hoff : off < n) (hq : n < off + q) (hm : m = n - off) :
    Calls Ybaf.prog 34 #[.pointer (some ⟨R, 0, none⟩), .slice none 0 0, .int .u64 off, .int .u64 q] w fun e w' => e = .returned (.tuple #[.slice (some ⟨w.heap.size + 1, 0, none⟩) m m, .iface 99 (.pointer (some ⟨w.heap.size, 0, none⟩))]) ∧ Got R C D o n cap bs false (k + 1) off m (w.alloc (outBox off q n)) (w.heap.size + 1) w' := by
  have hn := H.hn
  have hmk := make_bytes .u64 m (by omega)
  have hme := method_read
  have r0 := H.r0
  have r1 := H.r1
  have hR := H.hR
  have hC := H.hC
  have hD := H.hD
  have H1 := H.below ((Below.refl _ _).alloc (Nat.le_refl _) (outBox off q n))
  have Hb := H1.below ((Below.refl _ _).alloc (Nat.le_refl _) (.cells (madeCells #[.int .u8 0] m) 5))
  have hg := got_world (off := off) (m := m) H1 (by omega) (madeCells #[.int .u8 0] m)
  have hrd := read_ok C D o n cap (w.alloc (outBox off q n)).heap.size m off k (madeCells #[.int .u8 0] m) bs ((w.alloc (outBox off q n)).alloc (.cells (madeCells #[.int .u8 0] m) 5)) (by omega) (by omega) hn H.hcap H.hcm (by omega) (by omega) Hb.c0 Hb.c1 Hb.c2 Hb.f1 Hb.data (heap_alloc_new _ _) (size_madeCells _ _) (by simp; omega) H.hDC
  rw [show (w.alloc (outBox off q n)).heap.size = w.heap.size + 1 from by simp] at hg hrd
  generalize hwx : (((w.alloc (outBox off q n)).alloc (.cells (madeCells #[.int .u8 0] m) 5)).setCell ⟨C, 1, none⟩ (.int .i64 ((k : Int) + 1))).setRow (w.heap.size + 1) (byteCells (fun j => bs (off + j)) m).toArray = wx at hg hrd
  clear hwx Hb H1
  have HR : Hid (Calls Ybaf.prog 71 #[.pointer (some ⟨C, 0, none⟩), .slice (some ⟨w.heap.size + 1, 0, none⟩) m m, .int .i64 off] ((w.alloc (outBox off q n)).alloc (.cells (madeCells #[.int .u8 0] m) 5)) fun e w' => e = .returned (.tuple #[.int .i64 m, .nilIface]) ∧ w' = wx) := hrd
  clear hrd
  have hpos : 0 < m := by omega
  have he : ((n : Int) - (off : Int)) = (m : Int) := by omega
  have HE : Hid (((n : Int) - (off : Int)) = (m : Int)) := he
  have HM : Hid (m = n - off) := hm
  clear he hm
  have hoff' : (off : Int) < (n : Int) := by omega
  go_enter Ybaf.func34, Ybaf.ntmps34
  go_wp2_with (first | (go_at_call 41; refine (inside_out R off q n _ (by omega) (by omega) (by omega) (by omega) (by omega) (by exact r1)).mono ?_; rw [if_pos hoff', HE.out]; rintro e w' ⟨rfl, hw'⟩; subst hw') | (go_at_call 71; refine HR.out.mono ?_; rintro e w' ⟨rfl, rfl⟩))
  go_ret2
  exact ⟨rfl, hg⟩

set_option maxHeartbeats 400000 in
set_option maxRecDepth 100000 in
/-- A range that begins at the file's end or past it: nothing, and the error. -/
theorem into_none (R C D o n cap k off q : Nat) (bs : Nat → Int) (fl : Bool) (w : World) (H : RdAt R C D o n cap bs fl k w) (hoff : n ≤ off) (hq : 0 < q) :
    Calls Ybaf.prog 34 #[.pointer (some ⟨R, 0, none⟩), .slice none 0 0, .int .u64 off, .int .u64 q] w fun e w' => e = .returned (.tuple #[.slice none 0 0, .iface 99 (.pointer (some ⟨w.heap.size, 0, none⟩))]) ∧ w' = w.alloc (outBox off q n) := by
  have hn := H.hn
  have r1 := H.r1
  have hoff' : ¬ (off : Int) < (n : Int) := by omega
  go_enter Ybaf.func34, Ybaf.ntmps34
  go_wp2_with (go_at_call 41; refine (inside_out R off q n _ (by omega) (by omega) (by omega) (by omega) (by omega) (by exact r1)).mono ?_; rw [if_neg hoff']; rintro e w' ⟨rfl, rfl⟩)
  go_ret2
  exact ⟨rfl, rfl⟩

end Go.Proofs.YbulkblxcFmt
