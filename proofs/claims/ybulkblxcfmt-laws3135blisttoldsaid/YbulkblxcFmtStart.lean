import Derived.Test.YbulkblxcFmtBytes
namespace Go.Proofs.YbulkblxcFmt
open Go.RowKit
set_option linter.unusedVariables false

/-- The bytes of "MZ". -/
def dosBs : Nat → Int := fun j => if j = 0 then 77 else 90

theorem toNat_u8 {a b : Int} (h0 : 0 ≤ a ∧ a ≤ 255) (h1 : 0 ≤ b ∧ b ≤ 255) : (UInt8.ofNat a.toNat = UInt8.ofNat b.toNat) ↔ a = b := by
  constructor
  · intro h
    have := congrArg UInt8.toNat h
    simp at this
    omega
  · rintro rfl; rfl

theorem str_toList (xs : List Int) : (strOfNums xs).toList = xs.map fun n => UInt8.ofNat n.toNat := Lib.strOfNums_toList xs

theorem eq_dos {f : Nat → Int} (h0 : 0 ≤ f 0 ∧ f 0 ≤ 255) (h1 : 0 ≤ f 1 ∧ f 1 ≤ 255) : ((strOfNums (nums f 2)).toList == (strOfNums (nums dosBs 2)).toList) = (decide (f 0 = 77) && decide (f 1 = 90)) := by
  rw [str_toList, str_toList, Bool.eq_iff_iff]
  have e1 := toNat_u8 (a := f 0) (b := 77) h0 (by omega)
  have e2 := toNat_u8 (a := f 1) (b := 90) h1 (by omega)
  simp [nums, List.range_succ, dosBs]
  simp at e1 e2
  rw [e1, e2]

theorem ne_len {f g : Nat → Int} {m n : Nat} (h : m ≠ n) : ((strOfNums (nums f m)).toList == (strOfNums (nums g n)).toList) = false := by
  rw [str_toList, str_toList, beq_eq_false_iff_ne]
  intro e
  have := congrArg List.length e
  simp [nums] at this
  exact h this

theorem ne_len0 {g : Nat → Int} {n : Nat} (h : n ≠ 0) : (ByteArray.empty.toList == (strOfNums (nums g n)).toList) = false := by
  rw [str_toList, beq_eq_false_iff_ne]
  intro e
  have := congrArg List.length e
  simp [nums] at this
  exact h this.symm

theorem ne_len0' {g : Nat → Int} {n : Nat} (h : n ≠ 0) : (strOfNums (nums g n)).toList.isEmpty = false := by
  rw [str_toList]
  simp [nums, h]

/-- What the laws over package pe know of the package-level variables: all of it below block B0. -/
def isMach (q : Int) : Bool := decide (q = 332) || decide (q = 448) || decide (q = 452) || decide (q = 34404) || decide (q = 43620)

structure PeW (B0 M mo mc bm : Nat) (w : World) : Prop where
  dos : w.cell? ⟨1, 0, none⟩ = some (.slice (some ⟨M, mo, none⟩) 2 mc)
  dosB : Bytes w M mo 2 dosBs
  mach : w.cell? ⟨2, 0, none⟩ = some (.map (some bm))
  look : ∃ (S : Int → ByteArray) (Z : Int → Int), ∀ w', w'.heap[bm]? = w.heap[bm]? → ∀ q : Int, 0 ≤ q → q ≤ 65535 → (Instr.lookup 96 (.map (some bm)) (.int .u16 q) true).run Ybaf.prog w' = .ok (.tuple #[.agg #[.string (S q), .int .i64 (Z q)], .bool (isMach q)]) w'
  errT : ErrT w
  hM : M < B0
  hbm : bm < B0
  h9 : 9 ≤ B0
  hB : B0 ≤ w.heap.size

theorem PeW.below {B0 M mo mc bm : Nat} {w w' : World} (h : PeW B0 M mo mc bm w) (hb : Below B0 w w') : PeW B0 M mo mc bm w' := by
  have h9 := h.h9
  exact ⟨(hb.cell (p := ⟨1, 0, none⟩) (by simp; omega)).trans h.dos, h.dosB.below hb h.hM, (hb.cell (p := ⟨2, 0, none⟩) (by simp; omega)).trans h.mach,
    h.look.elim fun S h1 => h1.elim fun Z h2 => ⟨S, Z, fun w2 h3 => h2 w2 (h3.trans (hb.block bm h.hbm))⟩, h.errT.below hb (by omega), h.hM, h.hbm, h9, Nat.le_trans h.hB hb.size⟩

/-- The reader still stands, at most K calls on; all else that was there is as it was. -/
def RdTo (R C D o n cap : Nat) (bs : Nat → Int) (K : Nat) (w w' : World) : Prop := ∃ k, k ≤ K ∧ RdAt R C D o n cap bs false k w' ∧ KeepsC C w w'

theorem RdTo.trans {R C D o n cap : Nat} {bs : Nat → Int} {K1 K : Nat} {a b c : World} (h : KeepsC C a b) (k : RdTo R C D o n cap bs K b c) : RdTo R C D o n cap bs K a c := by
  obtain ⟨j, h1, h2, h3⟩ := k
  exact ⟨j, h1, h2, h.trans h3⟩

def isMZ (n : Nat) (bs : Nat → Int) : Bool := decide (2 ≤ n) && (decide (bs 0 = 77) && decide (bs 1 = 90))

theorem ret_bool2 {a b : Bool} {v : Value} (h : a = b) : Ending.returned (.tuple #[.bool a, v]) = .returned (.tuple #[.bool b, v]) := by rw [h]

set_option maxHeartbeats 400000 in
theorem starts_any (B0 M mo mc bm R C D o n cap k : Nat) (bs : Nat → Int) (w : World) (P : PeW B0 M mo mc bm w) (H : RdAt R C D o n cap bs false k w) (hk : k ≤ 1000) (hCB : B0 ≤ C) :
    Calls Ybaf.prog 29 #[.pointer (some ⟨R, 0, none⟩), .slice (some ⟨M, mo, none⟩) 2 mc] w fun e w' => e = .returned (.tuple #[.bool (isMZ n bs), .nilIface]) ∧ RdTo R C D o n cap bs (k + 1) w w' := by
  have hB := P.hB
  by_cases h2 : 2 ≤ n
  · go_enter Ybaf.func29, Ybaf.ntmps29
    go_wp2_with fail
    refine (bytes_ok R C D o n cap k 0 2 bs w H hk (by omega) (by omega)).mono ?_
    rintro e w1 ⟨rfl, hg⟩
    have hP := P.below (hg.kept.below hCB hB)
    have c1 := conv_bytes w1 w.heap.size 0 2 2 _ hg.row
    have c2 := conv_bytes w1 M mo 2 mc _ hP.dosB
    go_wp2_with (go_at_call 35; refine (equal_any _ _ _ _ _ c1 c2).mono ?_; rintro e w' ⟨rfl, rfl⟩)
    go_ret2
    refine ⟨ret_bool2 ?_, k + 1, Nat.le_refl _, hg.rd, hg.kept⟩
    have b0 := hg.row.bd 0 (by omega)
    have b1 := hg.row.bd 1 (by omega)
    have he := eq_dos (f := fun j => bs j) (by simpa using b0) (by simpa using b1)
    rw [he, isMZ, decide_eq_true h2]
    rfl
  · have hz : isMZ n bs = false := by simp [isMZ, h2]
    by_cases h1 : n = 1
    · go_enter Ybaf.func29, Ybaf.ntmps29
      go_wp2_with fail
      refine (bytes_part R C D o n cap k 0 2 1 bs w H hk (by omega) (by omega) (by omega)).mono ?_
      rintro e w1 ⟨rfl, hg⟩
      have hkp : KeepsC C w w1 := ((KeepsC.refl C w).alloc _).trans hg.kept
      have hP := P.below (hkp.below hCB hB)
      have hs1 := hkp.size
      clear h1
      go_wp2_with fail
      refine (isOut_hit _ _ hP.errT).mono ?_
      rintro e w2 ⟨rfl, hb⟩
      have hP2 := hP.below (hb.mono hP.hB)
      have c1 := conv_bytes w2 (w.heap.size + 1) 0 1 1 _ (hg.row.below hb hg.here)
      have c2 := conv_bytes w2 M mo 2 mc _ hP2.dosB
      go_wp2_with (go_at_call 35; refine (equal_any _ _ _ _ _ c1 c2).mono ?_; rintro e w' ⟨rfl, rfl⟩)
      go_ret2
      refine ⟨ret_bool2 ?_, k + 1, Nat.le_refl _, hg.rd.below hb, hkp.trans (KeepsC.of_below hb)⟩
      rw [hz, ne_len (by omega)]
    · go_enter Ybaf.func29, Ybaf.ntmps29
      go_wp2_with fail
      refine (bytes_none R C D o n cap k 0 2 bs false w H (by omega) (by omega)).mono ?_
      rintro e w1 ⟨rfl, hw1⟩
      have hb1 : Below w.heap.size w w1 := by rw [hw1]; exact (Below.refl _ _).alloc (Nat.le_refl _) _
      clear hw1
      have hP := P.below (hb1.mono hB)
      clear h1
      go_wp2_with fail
      refine (isOut_hit _ _ hP.errT).mono ?_
      rintro e w2 ⟨rfl, hb⟩
      have hP2 := hP.below (hb.mono hP.hB)
      have c1 := conv_nil w2 0 0
      have c2 := conv_bytes w2 M mo 2 mc _ hP2.dosB
      go_wp2_with (go_at_call 35; refine (equal_any _ _ _ _ _ c1 c2).mono ?_; rintro e w' ⟨rfl, rfl⟩)
      go_ret2
      refine ⟨ret_bool2 ?_, k, by omega, (H.below hb1).below hb, (KeepsC.of_below hb1).trans (KeepsC.of_below hb)⟩
      rw [hz]
      exact ne_len0' (by omega)

end Go.Proofs.YbulkblxcFmt
