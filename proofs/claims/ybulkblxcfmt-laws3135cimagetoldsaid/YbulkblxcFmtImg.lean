import Derived.Test.YbulkblxcFmtObjA
namespace Go.Proofs.YbulkblxcFmt
open Go.RowKit
set_option linter.unusedVariables false

/-- One byte more laid down. -/
def upd (bs : Nat → Int) (i : Nat) (v : Int) : Nat → Int := fun j => if j = i then v else bs j

theorem byteCells_upd (bs : Nat → Int) (n i : Nat) (v : Int) : (byteCells bs n).toArray.setIfInBounds i (.int .u8 v) = (byteCells (upd bs i v) n).toArray := by
  apply Array.ext'
  rw [Array.toList_setIfInBounds]
  apply List.ext_getElem?
  intro j
  show ((byteCells bs n).set i (.int .u8 v))[j]? = (byteCells (upd bs i v) n)[j]?
  rw [List.getElem?_set]
  by_cases hj : j < n
  · rw [byteCells_get _ _ _ hj, byteCells_get _ _ _ hj]
    by_cases hij : i = j
    · rw [if_pos hij, if_pos (by rw [byteCells_length]; omega), upd, if_pos hij.symm]
    · rw [if_neg hij, upd, if_neg (fun h => hij h.symm)]
  · have e1 : (byteCells bs n)[j]? = none := List.getElem?_eq_none (by rw [byteCells_length]; omega)
    have e2 : (byteCells (upd bs i v) n)[j]? = none := List.getElem?_eq_none (by rw [byteCells_length]; omega)
    rw [e1, e2]
    split
    · split
      · rename_i h1 h2
        rw [byteCells_length] at h2
        omega
      · rfl
    · rfl

/-- The row of the law's buffer: T bytes in block B, all else as it was. -/
structure BufW (w : World) (B T : Nat) (bs : Nat → Int) (wr : World) : Prop where
  row : wr.heap[B]? = some (.cells (byteCells bs T).toArray 5 (0, 0))
  size : wr.heap.size = B + 1
  bel : Below B w wr

theorem BufW.cell {w wr : World} {B T : Nat} {bs : Nat → Int} (h : BufW w B T bs wr) (j : Nat) (hj : j < T) : wr.cell? ⟨B, j, none⟩ = some (.int .u8 (bs j)) := by
  rw [cell_of_row _ B j _ _ _ h.row]
  simp [byteCells, hj]
theorem BufW.free {w wr : World} {B T : Nat} {bs : Nat → Int} (h : BufW w B T bs wr) (j : Nat) : wr.frozen? ⟨B, j, none⟩ = false := by
  simp [World.frozen?, h.row]
theorem BufW.put {w wr : World} {B T : Nat} {bs : Nat → Int} (h : BufW w B T bs wr) (i : Nat) (v : Int) : BufW w B T (upd bs i v) (wr.setCell ⟨B, i, none⟩ (.int .u8 v)) :=
  ⟨by rw [heap_setCell_same _ _ _ _ _ _ h.row, byteCells_upd], by simp [World.setCell, h.size], h.bel.setCell (p := ⟨B, i, none⟩) (Nat.le_refl _) _⟩
theorem BufW.bytes {w wr : World} {B T n : Nat} {bs : Nat → Int} (h : BufW w B T bs wr) (hn : n ≤ T) (hb : ∀ j, j < n → 0 ≤ bs j ∧ bs j ≤ 255) : Bytes wr B 0 n bs := fun j hj => ⟨by rw [Nat.zero_add]; exact h.cell j (by omega), hb j hj⟩

theorem buf_start (w : World) (T : Nat) (hT : T ≤ 1000) : ∃ wB, (∀ q : IntKind, (Instr.makeSlice 26 (.int q (T : Int)) (.int q (T : Int))).run Ybaf.prog w = .ok (.slice (some ⟨w.heap.size, 0, none⟩) T T) wB) ∧ BufW w w.heap.size T (fun _ => 0) wB := by
  refine ⟨_, fun q => make_bytes q T (by omega) w, ?_, by simp, (Below.refl _ _).alloc (Nat.le_refl _) _⟩
  rw [heap_alloc_new]
  have : madeCells #[Value.int .u8 0] T = (byteCells (fun _ => 0) T).toArray := by
    apply Array.ext'
    rw [toList_madeCells_one]
    apply List.ext_getElem?
    intro j
    by_cases hj : j < T
    · simp [byteCells, hj]
    · simp [byteCells, hj]
  rw [this]

/-- The bytes of the image that the law builds, over whatever padding. -/
def imgBs (p : Nat → Int) (a : Nat) (x : Int) : Nat → Int :=
  upd (upd (upd (upd (upd (upd (upd (upd (upd (upd p 0 77) 1 90) 60 ((64 + (a : Int)) % 256)) 61 ((64 + (a : Int)) / 256)) 62 0) 63 0) (64 + a) 80) (64 + a + 1) 69) (64 + a + 2) 0) (64 + a + 3) x

theorem imgBs_bd {p : Nat → Int} {a : Nat} {x : Int} (ha : a ≤ 255) (hx : 0 ≤ x ∧ x ≤ 255) (hp : ∀ j, 0 ≤ p j ∧ p j ≤ 255) (j : Nat) : 0 ≤ imgBs p a x j ∧ imgBs p a x j ≤ 255 := by
  have := hp j
  unfold imgBs upd
  repeat' split
  all_goals omega

theorem imgBs_mz {p : Nat → Int} {a n : Nat} {x : Int} (hn : 2 ≤ n) : isMZ n (imgBs p a x) = true := by
  have h0 : imgBs p a x 0 = 77 := by
    unfold imgBs upd
    simp
    omega
  have h1 : imgBs p a x 1 = 90 := by
    unfold imgBs upd
    simp
    omega
  simp [isMZ, hn, h0, h1]

theorem imgBs_lfa {p : Nat → Int} {a : Nat} {x : Int} (ha : a ≤ 255) : lfa (imgBs p a x) = 64 + a := by
  have h0 : imgBs p a x 60 = (64 + (a : Int)) % 256 := by
    unfold imgBs upd
    simp
    omega
  have h1 : imgBs p a x 61 = (64 + (a : Int)) / 256 := by
    unfold imgBs upd
    simp
    omega
  have h2 : imgBs p a x 62 = 0 := by
    unfold imgBs upd
    simp
    omega
  have h3 : imgBs p a x 63 = 0 := by
    unfold imgBs upd
    simp
    omega
  unfold lfa le4
  rw [h0, h1, h2, h3]
  omega

theorem imgBs_at {p : Nat → Int} {a : Nat} {x : Int} : imgBs p a x (64 + a) = 80 ∧ imgBs p a x (64 + a + 1) = 69 ∧ imgBs p a x (64 + a + 2) = 0 ∧ imgBs p a x (64 + a + 3) = x := by
  unfold imgBs upd
  refine ⟨?_, ?_, ?_, ?_⟩
  · rw [if_neg (by omega), if_neg (by omega), if_neg (by omega), if_pos rfl]
  · rw [if_neg (by omega), if_neg (by omega), if_pos rfl]
  · rw [if_neg (by omega), if_pos rfl]
  · rw [if_pos rfl]

theorem img_yes {p : Nat → Int} {a : Nat} (ha : a ≤ 255) : (decide (64 ≤ 64 + a + 4) && isPE (64 + a + 4) (imgBs p a 0)) = true := by
  obtain ⟨h0, h1, h2, h3⟩ := imgBs_at (p := p) (a := a) (x := 0)
  unfold isPE
  rw [imgBs_lfa ha, show (64 + (a : Int)).toNat = 64 + a from by omega, h0, h1, h2, h3]
  simp
  omega

theorem img_cut {p : Nat → Int} {a n : Nat} {x : Int} (ha : a ≤ 255) (hn : n < 64 + a + 4) : (decide (64 ≤ n) && isPE n (imgBs p a x)) = false := by
  rw [isPE_no (by rw [imgBs_lfa ha]; omega), Bool.and_false]

theorem img_sig {p : Nat → Int} {a n : Nat} (ha : a ≤ 255) : (decide (64 ≤ n) && isPE n (imgBs p a 88)) = false := by
  obtain ⟨h0, h1, h2, h3⟩ := imgBs_at (p := p) (a := a) (x := 88)
  unfold isPE
  rw [imgBs_lfa ha, show (64 + (a : Int)).toNat = 64 + a from by omega, h0, h1, h2, h3]
  simp

/-- The Reader over the buffer, cut to n bytes. -/
theorem img_rd {wC w3 : World} {B n cap Z : Nat} {bs : Nat → Int} {N : Int} {fl : Bool} (hrow : Bytes wC B 0 n bs) (hz : wC.heap.size = Z) (hB : B < Z) (hcap : n ≤ cap) (hcm : cap ≤ 1000000) (hN : N = (n : Int))
    (hw3 : w3 = (wC.alloc (.cells #[.slice (some ⟨B, 0, none⟩) n cap, .int .i64 0, .bool fl] 57)).alloc (.cells #[.iface 55 (.pointer (some ⟨Z, 0, none⟩)), .int .u64 N] 70)) :
    RdAt (Z + 1) Z B 0 n cap bs fl 0 w3 ∧ Below Z wC w3 := by
  subst hz hw3 hN
  exact ⟨rd_start hrow hB (by omega) hcap hcm, ((Below.refl _ _).alloc (Nat.le_refl _) _).alloc (by simp) _⟩

end Go.Proofs.YbulkblxcFmt
