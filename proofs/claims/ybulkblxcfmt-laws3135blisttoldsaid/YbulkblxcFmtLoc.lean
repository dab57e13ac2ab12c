import Derived.Test.YbulkblxcFmtStart
namespace Go.Proofs.YbulkblxcFmt
open Go.RowKit
set_option linter.unusedVariables false

/-- Four bytes, the least first. -/
def le4 (b0 b1 b2 b3 : Int) : Int := b0 + b1 * 256 + b2 * 65536 + b3 * 16777216
def le2 (b0 b1 : Int) : Int := b0 + b1 * 256

theorem le4_u32 {b0 b1 b2 b3 : Int} (h0 : 0 ≤ b0 ∧ b0 ≤ 255) (h1 : 0 ≤ b1 ∧ b1 ≤ 255) (h2 : 0 ≤ b2 ∧ b2 ≤ 255) (h3 : 0 ≤ b3 ∧ b3 ≤ 255) :
    bits .or .u32 (bits .or .u32 (bits .or .u32 b0 (b1 * 256)) (b2 * 65536)) (b3 * 16777216) = le4 b0 b1 b2 b3 := by
  simp (disch := omega) only [u32_or8, u32_or16, u32_or24]
  rfl
theorem le4_u64 {b0 b1 b2 b3 : Int} (h0 : 0 ≤ b0 ∧ b0 ≤ 255) (h1 : 0 ≤ b1 ∧ b1 ≤ 255) (h2 : 0 ≤ b2 ∧ b2 ≤ 255) (h3 : 0 ≤ b3 ∧ b3 ≤ 255) :
    bits .or .u64 (bits .or .u64 (bits .or .u64 b0 (b1 * 256)) (b2 * 65536)) (b3 * 16777216) = le4 b0 b1 b2 b3 := by
  simp (disch := omega) only [u64_or8, u64_or16, u64_or24]
  rfl
theorem le2_u16 {b0 b1 : Int} (h0 : 0 ≤ b0 ∧ b0 ≤ 255) (h1 : 0 ≤ b1 ∧ b1 ≤ 255) : bits .or .u16 b0 (b1 * 256) = le2 b0 b1 := by
  simp (disch := omega) only [u16_or8]
  rfl
theorem le4_bd {b0 b1 b2 b3 : Int} (h0 : 0 ≤ b0 ∧ b0 ≤ 255) (h1 : 0 ≤ b1 ∧ b1 ≤ 255) (h2 : 0 ≤ b2 ∧ b2 ≤ 255) (h3 : 0 ≤ b3 ∧ b3 ≤ 255) : 0 ≤ le4 b0 b1 b2 b3 ∧ le4 b0 b1 b2 b3 ≤ 4294967295 := by
  unfold le4; omega
theorem le2_bd {b0 b1 : Int} (h0 : 0 ≤ b0 ∧ b0 ≤ 255) (h1 : 0 ≤ b1 ∧ b1 ≤ 255) : 0 ≤ le2 b0 b1 ∧ le2 b0 b1 ≤ 65535 := by
  unfold le2; omega

theorem ret_int {k : IntKind} {a b : Int} (h : a = b) : Ending.returned (.int k a) = .returned (.int k b) := by rw [h]

set_option maxHeartbeats 400000 in
theorem le_uint32 (g o n c : Nat) (bs : Nat → Int) (w : World) (hn : 4 ≤ n) (h : Bytes w g o n bs) :
    Calls Ybaf.prog 36 #[.agg #[], .slice (some ⟨g, o, none⟩) n c] w fun e w' => e = .returned (.int .u32 (le4 (bs 0) (bs 1) (bs 2) (bs 3))) ∧ ∃ nq, w' = (w.alloc (.cells #[] 97)).drewN nq := by
  have e0 := cellOld (.cells #[] 97) (h.at 0 (by omega))
  have e1 := cellOld (.cells #[] 97) (h.at 1 (by omega))
  have e2 := cellOld (.cells #[] 97) (h.at 2 (by omega))
  have e3 := cellOld (.cells #[] 97) (h.at 3 (by omega))
  have h0 := h.bd 0 (by omega)
  have h1 := h.bd 1 (by omega)
  have h2 := h.bd 2 (by omega)
  have h3 := h.bd 3 (by omega)
  have hn3 : (3 : Int) < (n : Int) := by omega
  have hn2 : (2 : Int) < (n : Int) := by omega
  have hn1 : (1 : Int) < (n : Int) := by omega
  have hn0 : (0 : Int) < (n : Int) := by omega
  rw [Nat.add_zero] at e0
  clear h
  go_enter Ybaf.func36, Ybaf.ntmps36
  go_wp2
  go_quiet (fail)
  go_wp2
  go_ret
  exact ⟨ret_int (le4_u32 h0 h1 h2 h3), nq, rfl⟩

set_option maxHeartbeats 400000 in
theorem le_uint16 (g o n c : Nat) (bs : Nat → Int) (w : World) (hn : 2 ≤ n) (h : Bytes w g o n bs) :
    Calls Ybaf.prog 31 #[.agg #[], .slice (some ⟨g, o, none⟩) n c] w fun e w' => e = .returned (.int .u16 (le2 (bs 0) (bs 1))) ∧ ∃ nq, w' = (w.alloc (.cells #[] 97)).drewN nq := by
  have e0 := cellOld (.cells #[] 97) (h.at 0 (by omega))
  have e1 := cellOld (.cells #[] 97) (h.at 1 (by omega))
  have h0 := h.bd 0 (by omega)
  have h1 := h.bd 1 (by omega)
  have hn1 : (1 : Int) < (n : Int) := by omega
  have hn0 : (0 : Int) < (n : Int) := by omega
  rw [Nat.add_zero] at e0
  clear h
  go_enter Ybaf.func31, Ybaf.ntmps31
  go_wp2
  go_quiet (fail)
  go_wp2
  go_ret
  exact ⟨ret_int (le2_u16 h0 h1), nq, rfl⟩

/-- e_lfanew -/
def lfa (bs : Nat → Int) : Int := le4 (bs 60) (bs 61) (bs 62) (bs 63)
/-- the bytes of the image's signature -/
def peBs : Nat → Int := fun j => if j = 0 then 80 else if j = 1 then 69 else 0
def isPE (n : Nat) (bs : Nat → Int) : Bool := decide (lfa bs + 4 ≤ (n : Int)) && (decide (bs (lfa bs).toNat = 80) && (decide (bs ((lfa bs).toNat + 1) = 69) && (decide (bs ((lfa bs).toNat + 2) = 0) && decide (bs ((lfa bs).toNat + 3) = 0))))

theorem eq_pe {f : Nat → Int} (h : ∀ j, j < 4 → 0 ≤ f j ∧ f j ≤ 255) : ((strOfNums (nums f 4)).toList == [80, 69, 0, 0]) = (decide (f 0 = 80) && (decide (f 1 = 69) && (decide (f 2 = 0) && decide (f 3 = 0)))) := by
  rw [str_toList, Bool.eq_iff_iff]
  have e0 := toNat_u8 (a := f 0) (b := 80) (h 0 (by omega)) (by omega)
  have e1 := toNat_u8 (a := f 1) (b := 69) (h 1 (by omega)) (by omega)
  have e2 := toNat_u8 (a := f 2) (b := 0) (h 2 (by omega)) (by omega)
  have e3 := toNat_u8 (a := f 3) (b := 0) (h 3 (by omega)) (by omega)
  simp [nums, List.range_succ]
  simp at e0 e1 e2 e3
  rw [e0, e1, e2, e3]

set_option maxHeartbeats 400000 in
theorem img_short (B0 M mo mc bm R C D o n cap k : Nat) (bs : Nat → Int) (w : World) (P : PeW B0 M mo mc bm w) (H : RdAt R C D o n cap bs false k w) (hk : k ≤ 900) (hCB : B0 ≤ C) (h64 : n < 64) :
    Calls Ybaf.prog 30 #[.pointer (some ⟨R, 0, none⟩)] w fun e w' => e = .returned (.tuple #[.string ⟨#[109, 122]⟩, .int .u64 0, .nilIface]) ∧ RdTo R C D o n cap bs (k + 2) w w' := by
  have hB := P.hB
  by_cases h60 : 60 < n
  · go_enter Ybaf.func30, Ybaf.ntmps30
    go_wp2_with fail
    refine (bytes_part R C D o n cap k 60 4 (n - 60) bs w H (by omega) (by omega) (by omega) rfl).mono ?_
    rintro e w1 ⟨rfl, hg⟩
    have hkp : KeepsC C w w1 := ((KeepsC.refl C w).alloc _).trans hg.kept
    have hP := P.below (hkp.below hCB hB)
    go_wp2_with fail
    refine (isOut_hit _ _ hP.errT).mono ?_
    rintro e w2 ⟨rfl, hb⟩
    go_wp2
    go_ret3
    exact ⟨rfl, k + 1, by omega, hg.rd.below hb, hkp.trans (KeepsC.of_below hb)⟩
  · go_enter Ybaf.func30, Ybaf.ntmps30
    go_wp2_with fail
    refine (bytes_none R C D o n cap k 60 4 bs false w H (by omega) (by omega)).mono ?_
    rintro e w1 ⟨rfl, hw1⟩
    have hb1 : Below w.heap.size w w1 := by rw [hw1]; exact (Below.refl _ _).alloc (Nat.le_refl _) _
    clear hw1
    have hP := P.below (hb1.mono hB)
    go_wp2_with fail
    refine (isOut_hit _ _ hP.errT).mono ?_
    rintro e w2 ⟨rfl, hb⟩
    go_wp2
    go_ret3
    exact ⟨rfl, k, by omega, (H.below hb1).below hb, (KeepsC.of_below hb1).trans (KeepsC.of_below hb)⟩

theorem wrap_u64_small {a : Int} (h0 : 0 ≤ a) (h1 : a ≤ 4294967295) : IntKind.u64.wrap a = a := by
  rw [IntKind.wrap_u64]
  omega

/-- "pe" and where the COFF header lies; or "mz" and 0. -/
def peS (b : Bool) : ByteArray := if b then ⟨#[112, 101]⟩ else ⟨#[109, 122]⟩
def peN (b : Bool) (x : Int) : Int := if b then x + 4 else 0
theorem ret_pe {b : Bool} {x y : Int} (hb : b = true) (h : x = y) : Ending.returned (.tuple #[.string ⟨#[112, 101]⟩, .int .u64 (x + 4), .nilIface]) = .returned (.tuple #[.string (peS b), .int .u64 (peN b y), .nilIface]) := by rw [hb, h]; rfl
theorem ret_mz {b : Bool} {y : Int} (hb : b = false) : Ending.returned (.tuple #[.string ⟨#[109, 122]⟩, .int .u64 0, .nilIface]) = .returned (.tuple #[.string (peS b), .int .u64 (peN b y), .nilIface]) := by rw [hb]; rfl
theorem isPE_no {n : Nat} {bs : Nat → Int} (h : ¬ lfa bs + 4 ≤ (n : Int)) : isPE n bs = false := by simp [isPE, h]
theorem ne_pe {f : Nat → Int} {m : Nat} (h : m ≠ 4) : ((strOfNums (nums f m)).toList == [80, 69, 0, 0]) = false := by
  rw [str_toList, beq_eq_false_iff_ne]
  intro e
  have := congrArg List.length e
  simp [nums] at this
  exact h this

set_option maxHeartbeats 800000 in
set_option maxRecDepth 100000 in
theorem img_long (B0 M mo mc bm R C D o n cap k : Nat) (bs : Nat → Int) (w : World) (P : PeW B0 M mo mc bm w) (H : RdAt R C D o n cap bs false k w) (hk : k ≤ 900) (hCB : B0 ≤ C) (h64 : 64 ≤ n) :
    Calls Ybaf.prog 30 #[.pointer (some ⟨R, 0, none⟩)] w fun e w' => e = .returned (.tuple #[.string (peS (isPE n bs)), .int .u64 (peN (isPE n bs) (lfa bs)), .nilIface]) ∧ RdTo R C D o n cap bs (k + 2) w w' := by
  have hB := P.hB
  have bd := le4_bd (H.data.bd 60 (by omega)) (H.data.bd 61 (by omega)) (H.data.bd 62 (by omega)) (H.data.bd 63 (by omega))
  obtain ⟨a, ha⟩ := Int.eq_ofNat_of_zero_le bd.1
  have hw := wrap_u64_small bd.1 bd.2
  rw [ha] at hw bd
  have hlf : lfa bs = a := ha
  have hle : le4 (bs (60 + 0)) (bs (60 + 1)) (bs (60 + 2)) (bs (60 + 3)) = (a : Int) := ha
  have HLF : Hid (lfa bs = a) := hlf
  have HLE : Hid (le4 (bs (60 + 0)) (bs (60 + 1)) (bs (60 + 2)) (bs (60 + 3)) = (a : Int)) := hle
  clear hlf hle ha
  go_enter Ybaf.func30, Ybaf.ntmps30
  go_wp2_with fail
  refine (bytes_ok R C D o n cap k 60 4 bs w H (by omega) (by omega) (by omega)).mono ?_
  rintro e w1 ⟨rfl, hg⟩
  have hP := P.below (hg.kept.below hCB hB)
  go_wp2_with fail
  refine (isOut_nil _).mono ?_
  rintro e w2 ⟨rfl, hb2⟩
  have hP2 := hP.below (hb2.mono hP.hB)
  have hk2 : KeepsC C w w2 := hg.kept.trans (KeepsC.of_below hb2)
  go_wp2_with fail
  refine (le_uint32 w.heap.size 0 4 4 _ _ (by omega) (hg.row.below hb2 hg.here)).mono ?_
  rw [HLE.out]
  rintro e w3 ⟨rfl, nq, hw3⟩
  have hb3 : Below w2.heap.size w2 w3 := by rw [hw3]; exact below_drewN ((Below.refl _ _).alloc (Nat.le_refl _) _) _
  clear hw3
  have hk3 : KeepsC C w w3 := hk2.trans (KeepsC.of_below hb3)
  have hP3 := hP2.below (hb3.mono hP2.hB)
  have hR3 := (hg.rd.below hb2).below hb3
  clear hb2 hb3 hP hP2 hk2
  go_wp2_with fail
  by_cases hfit : a + 4 ≤ n
  · refine (bytes_ok R C D o n cap (k + 1) a 4 bs _ hR3 (by omega) (by omega) hfit).mono ?_
    rintro e w4 ⟨rfl, hg4⟩
    have c1 := conv_bytes w4 w3.heap.size 0 4 4 _ hg4.row
    have heq := eq_pe (f := fun j => bs (a + j)) (fun j hj => hg4.row.bd j hj)
    have hpe : Hid (isPE n bs = ((strOfNums (nums (fun j => bs (a + j)) 4)).toList == [80, 69, 0, 0])) := by
      show _ = _
      rw [heq, isPE, HLF.out, decide_eq_true (by omega), Int.toNat_natCast]
      rfl
    have hfin : RdTo R C D o n cap bs (k + 2) w w4 := ⟨k + 2, Nat.le_refl _, hg4.rd, hk3.trans hg4.kept⟩
    clear heq
    cases htest : ((strOfNums (nums (fun j => bs (a + j)) 4)).toList == [80, 69, 0, 0])
    · go_wp2
      go_ret3
      exact ⟨ret_mz (hpe.out.trans htest), hfin⟩
    · go_wp2
      go_ret3
      exact ⟨ret_pe (hpe.out.trans htest) HLF.out.symm, hfin⟩
  · have hno : isPE n bs = false := isPE_no (by rw [HLF.out]; omega)
    have HNO : Hid (isPE n bs = false) := hno
    clear hno
    by_cases han : a < n
    · refine (bytes_part R C D o n cap (k + 1) a 4 (n - a) bs _ hR3 (by omega) han (by omega) rfl).mono ?_
      rintro e w4 ⟨rfl, hg4⟩
      have hk4 : KeepsC C w3 w4 := ((KeepsC.refl C w3).alloc _).trans hg4.kept
      have hP4 := hP3.below (hk4.below hCB hP3.hB)
      go_wp2_with fail
      refine (isOut_hit _ _ hP4.errT).mono ?_
      rintro e w5 ⟨rfl, hb5⟩
      have c1 := conv_bytes w5 (w3.heap.size + 1) 0 (n - a) (n - a) _ (hg4.row.below hb5 hg4.here)
      have htest := ne_pe (f := fun j => bs (a + j)) (m := n - a) (by omega)
      have hfin : RdTo R C D o n cap bs (k + 2) w w5 := ⟨k + 2, Nat.le_refl _, hg4.rd.below hb5, (hk3.trans hk4).trans (KeepsC.of_below hb5)⟩
      go_wp2
      go_ret3
      exact ⟨ret_mz HNO.out, hfin⟩
    · refine (bytes_none R C D o n cap (k + 1) a 4 bs false _ hR3 (by omega) (by omega)).mono ?_
      rintro e w4 ⟨rfl, hw4⟩
      have hb4 : Below w3.heap.size w3 w4 := by rw [hw4]; exact (Below.refl _ _).alloc (Nat.le_refl _) _
      clear hw4
      have hP4 := hP3.below (hb4.mono hP3.hB)
      go_wp2_with fail
      refine (isOut_hit _ _ hP4.errT).mono ?_
      rintro e w5 ⟨rfl, hb5⟩
      have c1 := conv_nil w5 0 0
      have hfin : RdTo R C D o n cap bs (k + 2) w w5 := ⟨k + 1, by omega, (hR3.below hb4).below hb5, (hk3.trans (KeepsC.of_below hb4)).trans (KeepsC.of_below hb5)⟩
      go_wp2
      go_ret3
      exact ⟨ret_mz HNO.out, hfin⟩

end Go.Proofs.YbulkblxcFmt
