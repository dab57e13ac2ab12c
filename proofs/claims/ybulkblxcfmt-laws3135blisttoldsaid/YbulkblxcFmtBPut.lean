import Derived.Test.YbulkblxcFmtRead
import Derived.Test.YbulkblxcFmtBField
namespace Go.Proofs.YbulkblxcFmt
open Go.RowKit
set_option linter.unusedVariables false

/-- One byte more laid down. -/
def updB (bs : Nat → Int) (i : Nat) (v : Int) : Nat → Int := fun j => if j = i then v else bs j

theorem byteCells_updB (bs : Nat → Int) (n i : Nat) (v : Int) : (byteCells bs n).toArray.setIfInBounds i (.int .u8 v) = (byteCells (updB bs i v) n).toArray := by
  apply Array.ext'
  rw [Array.toList_setIfInBounds]
  apply List.ext_getElem?
  intro j
  show ((byteCells bs n).set i (.int .u8 v))[j]? = (byteCells (updB bs i v) n)[j]?
  rw [List.getElem?_set]
  by_cases hj : j < n
  · rw [byteCells_get _ _ _ hj, byteCells_get _ _ _ hj]
    by_cases hij : i = j
    · rw [if_pos hij, if_pos (by rw [byteCells_length]; omega), updB, if_pos hij.symm]
    · rw [if_neg hij, updB, if_neg (fun h => hij h.symm)]
  · have e1 : (byteCells bs n)[j]? = none := List.getElem?_eq_none (by rw [byteCells_length]; omega)
    have e2 : (byteCells (updB bs i v) n)[j]? = none := List.getElem?_eq_none (by rw [byteCells_length]; omega)
    rw [e1, e2]
    split
    · split
      · rename_i h1 h2
        rw [byteCells_length] at h2
        omega
      · rfl
    · rfl

/-- The row of the law's file. -/
def RowB (w : World) (B T : Nat) (bs : Nat → Int) : Prop := w.heap[B]? = some (.cells (byteCells bs T).toArray 5 (0, 0))
theorem RowB.cell {w : World} {B T : Nat} {bs : Nat → Int} (h : RowB w B T bs) (j : Nat) (hj : j < T) : w.cell? ⟨B, j, none⟩ = some (.int .u8 (bs j)) := by
  rw [cell_of_row _ B j _ _ _ h]
  simp [byteCells, hj]
theorem RowB.free {w : World} {B T : Nat} {bs : Nat → Int} (h : RowB w B T bs) (j : Nat) : w.frozen? ⟨B, j, none⟩ = false := by
  have h' : w.heap[B]? = _ := h
  simp [World.frozen?, h']
theorem RowB.put {w : World} {B T : Nat} {bs : Nat → Int} (h : RowB w B T bs) (i : Nat) (v : Int) : RowB (w.setCell ⟨B, i, none⟩ (.int .u8 v)) B T (updB bs i v) := by
  unfold RowB
  rw [heap_setCell_same _ _ _ _ _ _ h, byteCells_updB]
theorem RowB.lt {w : World} {B T : Nat} {bs : Nat → Int} (h : RowB w B T bs) : B < w.heap.size := (Array.getElem?_eq_some_iff.1 h).1
theorem RowB.of_block {w w' : World} {B T : Nat} {bs : Nat → Int} (h : RowB w B T bs) (hb : w'.heap[B]? = w.heap[B]?) : RowB w' B T bs := hb.trans h
theorem RowB.below {B0 : Nat} {w w' : World} {B T : Nat} {bs : Nat → Int} (h : RowB w B T bs) (hb : Below B0 w w') (hB : B < B0) : RowB w' B T bs := (hb.block B hB).trans h
theorem RowB.bytes {w : World} {B T : Nat} {bs : Nat → Int} (h : RowB w B T bs) (hb : ∀ j, 0 ≤ bs j ∧ bs j ≤ 255) : Bytes w B 0 T bs := fun j hj => ⟨by rw [Nat.zero_add]; exact h.cell j hj, hb j⟩

theorem KeepsC.set {C : Nat} {a w : World} (h : KeepsC C a w) (i : Nat) (v : Value) : KeepsC C a (w.setCell ⟨C, i, none⟩ v) :=
  h.trans ⟨rfl, rfl, rfl, by simp [World.setCell], fun b hb hne => Below.heap_setCell _ _ _ _ hne⟩

def put4 (bs : Nat → Int) (o : Nat) (x : Int) : Nat → Int :=
  updB (updB (updB (updB bs o (x / 16777216)) (o + 1) (x / 65536 % 256)) (o + 2) (x / 256 % 256)) (o + 3) (x % 256)
def put8 (bs : Nat → Int) (o : Nat) (x : Int) : Nat → Int :=
  updB (updB (updB (updB (updB (updB (updB (updB bs o (x / 72057594037927936)) (o + 1) (x / 281474976710656 % 256)) (o + 2) (x / 1099511627776 % 256)) (o + 3) (x / 4294967296 % 256)) (o + 4) (x / 16777216 % 256)) (o + 5) (x / 65536 % 256)) (o + 6) (x / 256 % 256)) (o + 7) (x % 256)

set_option maxHeartbeats 1000000 in
theorem put_uint32 (B o n c T x : Nat) (bs : Nat → Int) (w : World) (hn : 4 ≤ n) (hx : x < 4294967296) (hT : o + 4 ≤ T) (h : RowB w B T bs) :
    Calls Ybaf.prog 8 #[.agg #[], .slice (some ⟨B, o, none⟩) n c, .int .u32 (x : Int)] w fun e w' => e = .returned (.tuple #[]) ∧ RowB w' B T (put4 bs o x) ∧ KeepsC B w w' := by
  have e0 := h.cell o (by omega)
  have e1 := h.cell (o + 1) (by omega)
  have e2 := h.cell (o + 2) (by omega)
  have e3 := h.cell (o + 3) (by omega)
  have hfr := h.free
  have hlt := h.lt
  have hn3 : (3 : Int) < (n : Int) := by omega
  have hn2 : (2 : Int) < (n : Int) := by omega
  have hn1 : (1 : Int) < (n : Int) := by omega
  have hn0 : (0 : Int) < (n : Int) := by omega
  go_enter Ybaf.func8, Ybaf.ntmps8
  have hrow := ((((h.put o ((x : Int) / 16777216)).put (o + 1) ((x : Int) / 65536 % 256)).put (o + 2) ((x : Int) / 256 % 256)).put (o + 3) ((x : Int) % 256))
  have hk := ((((KeepsC.refl B w).set o (.int .u8 ((x : Int) / 16777216))).set (o + 1) (.int .u8 ((x : Int) / 65536 % 256))).set (o + 2) (.int .u8 ((x : Int) / 256 % 256))).set (o + 3) (.int .u8 ((x : Int) % 256))
  have HROW : Hid _ := hrow
  clear hrow
  go_wp2
  go_end0
  exact ⟨rfl, RowB.below HROW.out ((Below.refl _ _).alloc (Nat.le_refl _) _) (RowB.lt HROW.out), hk.alloc _⟩

set_option maxHeartbeats 2000000 in
theorem put_uint64 (B o n c T x : Nat) (bs : Nat → Int) (w : World) (hn : 8 ≤ n) (hx : x < 18446744073709551616) (hT : o + 8 ≤ T) (h : RowB w B T bs) :
    Calls Ybaf.prog 9 #[.agg #[], .slice (some ⟨B, o, none⟩) n c, .int .u64 (x : Int)] w fun e w' => e = .returned (.tuple #[]) ∧ RowB w' B T (put8 bs o x) ∧ KeepsC B w w' := by
  have e0 := h.cell o (by omega)
  have e1 := h.cell (o + 1) (by omega)
  have e2 := h.cell (o + 2) (by omega)
  have e3 := h.cell (o + 3) (by omega)
  have e4 := h.cell (o + 4) (by omega)
  have e5 := h.cell (o + 5) (by omega)
  have e6 := h.cell (o + 6) (by omega)
  have e7 := h.cell (o + 7) (by omega)
  have hfr := h.free
  have hlt := h.lt
  have hn7 : (7 : Int) < (n : Int) := by omega
  have hn6 : (6 : Int) < (n : Int) := by omega
  have hn5 : (5 : Int) < (n : Int) := by omega
  have hn4 : (4 : Int) < (n : Int) := by omega
  have hn3 : (3 : Int) < (n : Int) := by omega
  have hn2 : (2 : Int) < (n : Int) := by omega
  have hn1 : (1 : Int) < (n : Int) := by omega
  have hn0 : (0 : Int) < (n : Int) := by omega
  go_enter Ybaf.func9, Ybaf.ntmps9
  have hrow := ((((((((h.put o ((x : Int) / 72057594037927936)).put (o + 1) ((x : Int) / 281474976710656 % 256)).put (o + 2) ((x : Int) / 1099511627776 % 256)).put (o + 3) ((x : Int) / 4294967296 % 256)).put (o + 4) ((x : Int) / 16777216 % 256)).put (o + 5) ((x : Int) / 65536 % 256)).put (o + 6) ((x : Int) / 256 % 256)).put (o + 7) ((x : Int) % 256))
  have hk := ((((((((KeepsC.refl B w).set o (.int .u8 ((x : Int) / 72057594037927936))).set (o + 1) (.int .u8 ((x : Int) / 281474976710656 % 256))).set (o + 2) (.int .u8 ((x : Int) / 1099511627776 % 256))).set (o + 3) (.int .u8 ((x : Int) / 4294967296 % 256))).set (o + 4) (.int .u8 ((x : Int) / 16777216 % 256))).set (o + 5) (.int .u8 ((x : Int) / 65536 % 256))).set (o + 6) (.int .u8 ((x : Int) / 256 % 256))).set (o + 7) (.int .u8 ((x : Int) % 256))
  have HROW : Hid _ := hrow
  clear hrow
  go_wp2
  go_end0
  exact ⟨rfl, RowB.below HROW.out ((Below.refl _ _).alloc (Nat.le_refl _) _) (RowB.lt HROW.out), hk.alloc _⟩

/-! ### Reading back -/
theorem updB_same (bs : Nat → Int) (i : Nat) (v : Int) : updB bs i v i = v := by simp [updB]
theorem updB_ne (bs : Nat → Int) (i j : Nat) (v : Int) (h : j ≠ i) : updB bs i v j = bs j := by simp [updB, h]
theorem put4_far (bs : Nat → Int) (o j : Nat) (x : Int) (h : j < o ∨ o + 4 ≤ j) : put4 bs o x j = bs j := by
  unfold put4 updB
  repeat' split
  all_goals first | rfl | omega
theorem put8_far (bs : Nat → Int) (o j : Nat) (x : Int) (h : j < o ∨ o + 8 ≤ j) : put8 bs o x j = bs j := by
  unfold put8 updB
  repeat' split
  all_goals first | rfl | omega
theorem put4_bd {bs : Nat → Int} {o : Nat} {x : Int} (h0 : 0 ≤ x) (h1 : x < 4294967296) (hb : ∀ j, 0 ≤ bs j ∧ bs j ≤ 255) (j : Nat) : 0 ≤ put4 bs o x j ∧ put4 bs o x j ≤ 255 := by
  have := hb j
  unfold put4 updB
  repeat' split
  all_goals omega
theorem put8_bd {bs : Nat → Int} {o : Nat} {x : Int} (h0 : 0 ≤ x) (h1 : x < 18446744073709551616) (hb : ∀ j, 0 ≤ bs j ∧ bs j ≤ 255) (j : Nat) : 0 ≤ put8 bs o x j ∧ put8 bs o x j ≤ 255 := by
  have := hb j
  unfold put8 updB
  repeat' split
  all_goals omega
theorem be4_put4 (bs : Nat → Int) (o : Nat) (x : Int) (h0 : 0 ≤ x) (h1 : x < 4294967296) : be4 (put4 bs o x) o = x := by
  have a0 : put4 bs o x o = x / 16777216 := by unfold put4 updB; simp
  have a1 : put4 bs o x (o + 1) = x / 65536 % 256 := by unfold put4 updB; simp
  have a2 : put4 bs o x (o + 2) = x / 256 % 256 := by unfold put4 updB; simp
  have a3 : put4 bs o x (o + 3) = x % 256 := by unfold put4 updB; simp
  unfold be4 le4
  rw [a0, a1, a2, a3]
  omega
theorem be8_put8 (bs : Nat → Int) (o : Nat) (x : Int) (h0 : 0 ≤ x) (h1 : x < 18446744073709551616) : be8 (put8 bs o x) o = x := by
  have a0 : put8 bs o x o = x / 72057594037927936 := by unfold put8 updB; simp
  have a1 : put8 bs o x (o + 1) = x / 281474976710656 % 256 := by unfold put8 updB; simp
  have a2 : put8 bs o x (o + 2) = x / 1099511627776 % 256 := by unfold put8 updB; simp
  have a3 : put8 bs o x (o + 3) = x / 4294967296 % 256 := by unfold put8 updB; simp
  have a4 : put8 bs o x (o + 4) = x / 16777216 % 256 := by unfold put8 updB; simp
  have a5 : put8 bs o x (o + 4 + 1) = x / 65536 % 256 := by unfold put8 updB; simp
  have a6 : put8 bs o x (o + 4 + 2) = x / 256 % 256 := by unfold put8 updB; simp
  have a7 : put8 bs o x (o + 4 + 3) = x % 256 := by unfold put8 updB; simp
  unfold be8 be4 le4
  rw [a0, a1, a2, a3, a4, a5, a6, a7]
  omega
theorem be4_same {bs bs' : Nat → Int} {o : Nat} (h : ∀ j, o ≤ j → j < o + 4 → bs' j = bs j) : be4 bs' o = be4 bs o := by
  unfold be4
  rw [h o (by omega) (by omega), h (o + 1) (by omega) (by omega), h (o + 2) (by omega) (by omega), h (o + 3) (by omega) (by omega)]
theorem be8_same {bs bs' : Nat → Int} {o : Nat} (h : ∀ j, o ≤ j → j < o + 8 → bs' j = bs j) : be8 bs' o = be8 bs o := by
  unfold be8
  rw [be4_same (fun j h1 h2 => h j (by omega) (by omega)), be4_same (o := o + 4) (fun j h1 h2 => h j (by omega) (by omega))]

end Go.Proofs.YbulkblxcFmt
