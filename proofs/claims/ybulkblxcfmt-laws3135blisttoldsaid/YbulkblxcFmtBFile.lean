import Derived.Test.YbulkblxcFmtBPut
import Derived.Test.YbulkblxcFmtBYes0
namespace Go.Proofs.YbulkblxcFmt
open Go.RowKit
set_option linter.unusedVariables false

/-! ### The file that the law builds -/
def esOf (wide : Bool) : Nat := if wide then 32 else 20
def soOf (wide : Bool) : Nat := if wide then 16 else 12
def wdOf (wide : Bool) : Nat := if wide then 8 else 4
def magOf (wide : Bool) : Nat := if wide then 3405691583 else 3405691582
def fldW (wide : Bool) (bs : Nat → Int) (o : Nat) : Int := if wide then be8 bs o else be4 bs o

theorem form_wide (wide : Bool) : FormOk (esOf wide) (soOf wide) (wdOf wide) (fldW wide) := by
  cases wide
  · exact ⟨by decide, by decide, by decide, by decide, by decide, fun bF T o len cap off tb w h1 h2 h3 h4 h5 h6 => field4 bF T o len cap off tb w h1 h2 h3 h4 h5 h6⟩
  · exact ⟨by decide, by decide, by decide, by decide, by decide, fun bF T o len cap off tb w h1 h2 h3 h4 h5 h6 => field8 bF T o len cap off tb w h1 h2 h3 h4 h5 h6⟩

/-- An entry as the file holds it. -/
def enOf (wide : Bool) (hend c f z : Nat) : En :=
  ⟨c % 7, if wide then (f + hend) % 18446744073709551616 else (f + hend) % 18446744073709551616 % 4294967296, if wide then z else z % 4294967296⟩
def entsOf (wide : Bool) (hend : Nat) (c f z : Nat → Nat) (n : Nat) : List En := (List.range n).map fun i => enOf wide hend (c i) (f i) (z i)
theorem entsOf_length (wide : Bool) (hend : Nat) (c f z : Nat → Nat) (n : Nat) : (entsOf wide hend c f z n).length = n := by simp [entsOf]
theorem entsOf_at (wide : Bool) (hend : Nat) (c f z : Nat → Nat) (n i : Nat) (hi : i < (entsOf wide hend c f z n).length) : (entsOf wide hend c f z n)[i] = enOf wide hend (c i) (f i) (z i) := by simp [entsOf]

/-- Entry number i lies in the file. -/
structure EntAt (wide : Bool) (bs : Nat → Int) (p : Nat) (e : En) : Prop where
  cpu : be4 bs p = cpuK e.k
  off : fldW wide bs (p + 8) = (e.off : Int)
  size : fldW wide bs (p + soOf wide) = (e.size : Int)

theorem EntAt.same {wide : Bool} {bs bs' : Nat → Int} {p : Nat} {e : En} (h : EntAt wide bs p e) (hs : ∀ j, p ≤ j → j < p + esOf wide → bs' j = bs j) : EntAt wide bs' p e := by
  cases wide
  · have hs' : ∀ j, p ≤ j → j < p + 20 → bs' j = bs j := hs
    exact ⟨(be4_same (fun j h1 h2 => hs' j (by omega) (by omega))).trans h.cpu, (be4_same (fun j h1 h2 => hs' j (by omega) (by omega))).trans h.off, (be4_same (o := p + 12) (fun j h1 h2 => hs' j (by omega) (by omega))).trans h.size⟩
  · have hs' : ∀ j, p ≤ j → j < p + 32 → bs' j = bs j := hs
    exact ⟨(be4_same (fun j h1 h2 => hs' j (by omega) (by omega))).trans h.cpu, (be8_same (fun j h1 h2 => hs' j (by omega) (by omega))).trans h.off, (be8_same (o := p + 16) (fun j h1 h2 => hs' j (by omega) (by omega))).trans h.size⟩

/-- The file so far: the header, the first i entries. -/
structure FileI (wide : Bool) (n : Nat) (e : Nat → En) (i : Nat) (bs : Nat → Int) : Prop where
  bd : ∀ j, 0 ≤ bs j ∧ bs j ≤ 255
  mag : be4 bs 0 = (magOf wide : Int)
  cnt : be4 bs 4 = (n : Int)
  ent : ∀ i', i' < i → EntAt wide bs (8 + i' * esOf wide) (e i')

theorem FileI.step {wide : Bool} {n : Nat} {e : Nat → En} {i : Nat} {bs bs' : Nat → Int} (h : FileI wide n e i bs) (hbd : ∀ j, 0 ≤ bs' j ∧ bs' j ≤ 255) (hs : ∀ j, j < 8 + i * esOf wide → bs' j = bs j) (he : EntAt wide bs' (8 + i * esOf wide) (e i)) : FileI wide n e (i + 1) bs' := by
  refine ⟨hbd, (be4_same (fun j h1 h2 => hs j (by omega))).trans h.mag, (be4_same (fun j h1 h2 => hs j (by omega))).trans h.cnt, fun i' hi' => ?_⟩
  rcases (by omega : i' < i ∨ i' = i) with h1 | h1
  · refine (h.ent i' h1).same (fun j hj1 hj2 => hs j ?_)
    have := Nat.mul_le_mul_right (esOf wide) (show i' + 1 ≤ i from h1)
    rw [Nat.add_mul, Nat.one_mul] at this
    omega
  · subst h1; exact he

theorem cpuK_bd (k : Nat) : 0 ≤ cpuK k ∧ cpuK k < 4294967296 := by
  unfold cpuK
  repeat' split
  all_goals omega

/-- The three stores of a round. -/
theorem ent_wide (bs : Nat → Int) (p : Nat) (e : En) (h1 : e.off < 18446744073709551616) (h2 : e.size < 18446744073709551616) :
    EntAt true (put8 (put8 (put4 bs p (cpuK e.k)) (p + 8) (e.off : Int)) (p + 16) (e.size : Int)) p e := by
  refine ⟨?_, ?_, ?_⟩
  · rw [be4_same (fun j _ _ => put8_far _ _ _ _ (by omega)), be4_same (fun j _ _ => put8_far _ _ _ _ (by omega))]
    exact be4_put4 bs p _ (cpuK_bd _).1 (cpuK_bd _).2
  · show be8 _ (p + 8) = _
    rw [be8_same (fun j _ _ => put8_far _ _ _ _ (by omega))]
    exact be8_put8 _ _ _ (by omega) (by omega)
  · show be8 _ (p + 16) = _
    exact be8_put8 _ _ _ (by omega) (by omega)
theorem ent_narrow (bs : Nat → Int) (p : Nat) (e : En) (h1 : e.off < 4294967296) (h2 : e.size < 4294967296) :
    EntAt false (put4 (put4 (put4 bs p (cpuK e.k)) (p + 8) (e.off : Int)) (p + 12) (e.size : Int)) p e := by
  refine ⟨?_, ?_, ?_⟩
  · rw [be4_same (fun j _ _ => put4_far _ _ _ _ (by omega)), be4_same (fun j _ _ => put4_far _ _ _ _ (by omega))]
    exact be4_put4 bs p _ (cpuK_bd _).1 (cpuK_bd _).2
  · show be4 _ (p + 8) = _
    rw [be4_same (fun j _ _ => put4_far _ _ _ _ (by omega))]
    exact be4_put4 _ _ _ (by omega) (by omega)
  · show be4 _ (p + 12) = _
    exact be4_put4 _ _ _ (by omega) (by omega)

theorem FileI.wide {n : Nat} {e : Nat → En} {i : Nat} {bs : Nat → Int} (h : FileI true n e i bs) (h1 : (e i).off < 18446744073709551616) (h2 : (e i).size < 18446744073709551616) :
    FileI true n e (i + 1) (put8 (put8 (put4 bs (8 + i * 32) (cpuK (e i).k)) (8 + i * 32 + 8) ((e i).off : Int)) (8 + i * 32 + 16) ((e i).size : Int)) := by
  refine h.step ?_ ?_ (ent_wide bs (8 + i * 32) (e i) h1 h2)
  · exact put8_bd (by omega) (by omega) (put8_bd (by omega) (by omega) (put4_bd (cpuK_bd _).1 (cpuK_bd _).2 h.bd))
  · intro j hj
    have hj' : j < 8 + i * 32 := hj
    rw [put8_far _ _ _ _ (by omega), put8_far _ _ _ _ (by omega), put4_far _ _ _ _ (by omega)]
theorem FileI.narrow {n : Nat} {e : Nat → En} {i : Nat} {bs : Nat → Int} (h : FileI false n e i bs) (h1 : (e i).off < 4294967296) (h2 : (e i).size < 4294967296) :
    FileI false n e (i + 1) (put4 (put4 (put4 bs (8 + i * 20) (cpuK (e i).k)) (8 + i * 20 + 8) ((e i).off : Int)) (8 + i * 20 + 12) ((e i).size : Int)) := by
  refine h.step ?_ ?_ (ent_narrow bs (8 + i * 20) (e i) h1 h2)
  · exact put4_bd (by omega) (by omega) (put4_bd (by omega) (by omega) (put4_bd (cpuK_bd _).1 (cpuK_bd _).2 h.bd))
  · intro j hj
    have hj' : j < 8 + i * 20 := hj
    rw [put4_far _ _ _ _ (by omega), put4_far _ _ _ _ (by omega), put4_far _ _ _ _ (by omega)]

theorem fldW_shift (wide : Bool) (bs : Nat → Int) (a b o : Nat) : fldW wide (fun j => bs (a + (b + j))) o = fldW wide bs (a + b + o) := by
  cases wide
  · show be4 _ _ = be4 _ _
    simp [be4, Nat.add_assoc]
  · show be8 _ _ = be8 _ _
    simp [be8, be4, Nat.add_assoc]
theorem be4_shift (bs : Nat → Int) (a o : Nat) : be4 (fun j => bs (a + j)) o = be4 bs (a + o) := by
  simp [be4, Nat.add_assoc]

theorem enOf_big (wide : Bool) (hend c f z : Nat) (hz : z < 18446744073709551616) : (enOf wide hend c f z).off < 18446744073709551616 ∧ (enOf wide hend c f z).size < 18446744073709551616 ∧ (enOf wide hend c f z).k < 7 := by
  cases wide
  · exact ⟨by show (f + hend) % 18446744073709551616 % 4294967296 < _; omega, by show z % 4294967296 < _; omega, Nat.mod_lt _ (by omega)⟩
  · exact ⟨by show (f + hend) % 18446744073709551616 < _; omega, hz, Nat.mod_lt _ (by omega)⟩

theorem file_of {wide : Bool} {n fs : Nat} {c f z : Nat → Nat} {hend : Nat} {bs : Nat → Int} (hn : n ≤ 30) (hfit : 8 + n * esOf wide ≤ fs) (hfs : fs ≤ 10000) (hz : ∀ i, i < n → z i < 18446744073709551616)
    (h : FileI wide n (fun i => enOf wide hend (c i) (f i) (z i)) n bs) : FileOf (esOf wide) (soOf wide) (wdOf wide) (fldW wide) fs bs (entsOf wide hend c f z n) := by
  have hl := entsOf_length wide hend c f z n
  have hform : isForm (magOf wide : Int) = true ∧ fEs (magOf wide : Int) = (esOf wide : Int) ∧ fOf (magOf wide : Int) = 8 ∧ fSz (magOf wide : Int) = (soOf wide : Int) ∧ fWd (magOf wide : Int) = (wdOf wide : Int) := by cases wide <;> decide
  refine ⟨by omega, by rw [hl]; exact hfit, hfs, ?_, by rw [hl]; exact h.cnt, by rw [h.mag]; exact hform.2.1, by rw [h.mag]; exact hform.2.2.1, by rw [h.mag]; exact hform.2.2.2.1, by rw [h.mag]; exact hform.2.2.2.2, ?_, ?_, ?_, ?_, ?_⟩
  · rw [scOk, h.mag, h.cnt, hform.1, hform.2.1, decide_eq_true (show (n : Int) ≤ 30 by omega), decide_eq_true (show 8 + (n : Int) * (esOf wide : Int) ≤ (fs : Int) by rw [← Int.natCast_mul]; omega)]
    rfl
  · intro e he
    simp only [entsOf, List.mem_map, List.mem_range] at he
    obtain ⟨i, hi, rfl⟩ := he
    exact (enOf_big wide hend (c i) (f i) (z i) (hz i hi)).2.2
  · intro i hi
    rw [entsOf_at, be4_shift]
    exact (h.ent i (by omega)).cpu
  · intro i hi
    rw [entsOf_at, fldW_shift]
    exact (h.ent i (by omega)).off
  · intro i hi
    rw [entsOf_at, fldW_shift]
    exact (h.ent i (by omega)).size
  · intro e he
    simp only [entsOf, List.mem_map, List.mem_range] at he
    obtain ⟨i, hi, rfl⟩ := he
    have := enOf_big wide hend (c i) (f i) (z i) (hz i hi)
    exact ⟨this.1, this.2.1⟩

end Go.Proofs.YbulkblxcFmt
