import Derived.Test.YbulkblxcFmtLocate
namespace Go.Proofs.YbulkblxcFmt
open Go.RowKit
set_option linter.unusedVariables false

/-- "coff" or nothing. -/
def cofS (b : Bool) : ByteArray := if b then ⟨#[99, 111, 102, 102]⟩ else ⟨#[]⟩

theorem ret_cof0 {b : Bool} (h : b = false) : Ending.returned (.tuple #[.string ⟨#[]⟩, .int .u64 0, .nilIface]) = .returned (.tuple #[.string (cofS b), .int .u64 0, .nilIface]) := by rw [h]; rfl
theorem ret_cof1 {b : Bool} (h : b = true) : Ending.returned (.tuple #[.string ⟨#[99, 111, 102, 102]⟩, .int .u64 0, .nilIface]) = .returned (.tuple #[.string (cofS b), .int .u64 0, .nilIface]) := by rw [h]; rfl

set_option maxHeartbeats 8000000 in
set_option maxRecDepth 100000 in
theorem loc_obj (B0 M mo mc bm R C D o n cap k : Nat) (bs : Nat → Int) (w : World) (P : PeW B0 M mo mc bm w) (H : RdAt R C D o n cap bs false k w) (hk : k ≤ 800) (hCB : B0 ≤ C) (h2 : 2 ≤ n) (hmz : isMZ n bs = false) :
    Calls Ybaf.prog 15 #[.pointer (some ⟨R, 0, none⟩)] w fun e w' => e = .returned (.tuple #[.string (cofS (isMach (le2 (bs 0) (bs 1)))), .int .u64 0, .nilIface]) ∧ RdTo R C D o n cap bs (k + 3) w w' := by
  have hB := P.hB
  have g1 := P.dos
  go_enter Ybaf.func15, Ybaf.ntmps15
  go_wp2_with fail
  refine (starts_any B0 M mo mc bm R C D o n cap k bs w P H (by omega) hCB).mono ?_
  rw [hmz]
  rintro e w1 ⟨rfl, k1, hk1, hR1, hk1'⟩
  have hP1 := P.below (hk1'.below hCB hB)
  go_wp2_with fail
  refine (bytes_ok R C D o n cap k1 0 2 bs w1 hR1 (by omega) (by omega) (by omega)).mono ?_
  rintro e w2 ⟨rfl, hg2⟩
  have hP2 := hP1.below (hg2.kept.below hCB hP1.hB)
  go_wp2_with fail
  refine (isOut_nil _).mono ?_
  rintro e w3 ⟨rfl, hb3⟩
  have hP3 := hP2.below (hb3.mono hP2.hB)
  have hk3 := (hk1'.trans hg2.kept).trans (KeepsC.of_below hb3)
  have hR3 := hg2.rd.below hb3
  have hrow := hg2.row.below hb3 hg2.here
  have hrowB := hrow
  have g2 := hP3.mach
  obtain ⟨S, Z, hl⟩ := hP3.look
  have bd : 0 ≤ le2 (bs 0) (bs 1) ∧ le2 (bs 0) (bs 1) ≤ 65535 := le2_bd (H.data.bd 0 (by omega)) (H.data.bd 1 (by omega))
  have hrowA : ∀ ob : Obj, Bytes (w3.alloc ob) w1.heap.size 0 2 (fun j => bs (0 + j)) := fun ob => hrow.below ((Below.refl w3.heap.size _).alloc (Nat.le_refl _) ob) (Nat.lt_of_lt_of_le hg2.here hb3.size)
  have hbm := Nat.lt_of_lt_of_le hP3.hbm hP3.hB
  have hl1 : ∀ (ob : Obj) (q : Nat), (Instr.lookup 96 (.map (some bm)) (.int .u16 (le2 (bs 0) (bs 1))) true).run Ybaf.prog ((w3.alloc ob).drewN q) = .ok (.tuple #[.agg #[.string (S (le2 (bs 0) (bs 1))), .int .i64 (Z (le2 (bs 0) (bs 1)))], .bool (isMach (le2 (bs 0) (bs 1)))]) ((w3.alloc ob).drewN q) :=
    fun ob q => hl ((w3.alloc ob).drewN q) (show (w3.alloc ob).heap[bm]? = _ from Below.heap_alloc _ _ _ hbm) _ bd.1 bd.2
  have hl2 : ∀ (ob ob2 : Obj) (q : Nat), (Instr.lookup 96 (.map (some bm)) (.int .u16 (le2 (bs 0) (bs 1))) true).run Ybaf.prog (((w3.alloc ob).alloc ob2).drewN q) = .ok (.tuple #[.agg #[.string (S (le2 (bs 0) (bs 1))), .int .i64 (Z (le2 (bs 0) (bs 1)))], .bool (isMach (le2 (bs 0) (bs 1)))]) (((w3.alloc ob).alloc ob2).drewN q) :=
    fun ob ob2 q => hl (((w3.alloc ob).alloc ob2).drewN q) (show ((w3.alloc ob).alloc ob2).heap[bm]? = _ from (Below.heap_alloc _ _ _ (by simp; omega)).trans (Below.heap_alloc _ _ _ hbm)) _ bd.1 bd.2
  have hl3 : ∀ (ob ob2 : Obj) (q : Nat), (Instr.lookup 96 (.map (some bm)) (.int .u16 (le2 (bs 0) (bs 1))) true).run Ybaf.prog (((w3.alloc ob).drewN q).alloc ob2) = .ok (.tuple #[.agg #[.string (S (le2 (bs 0) (bs 1))), .int .i64 (Z (le2 (bs 0) (bs 1)))], .bool (isMach (le2 (bs 0) (bs 1)))]) (((w3.alloc ob).drewN q).alloc ob2) :=
    fun ob ob2 q => hl (((w3.alloc ob).drewN q).alloc ob2) (show ((w3.alloc ob).alloc ob2).heap[bm]? = _ from (Below.heap_alloc _ _ _ (by simp; omega)).trans (Below.heap_alloc _ _ _ hbm)) _ bd.1 bd.2
  have hs0 : 9 ≤ w3.heap.size := Nat.le_trans hP3.h9 hP3.hB
  have hs1 : 2 < w3.heap.size := by omega
  have hs2 : 2 < w3.heap.size + 1 := by omega
  have hs3 : 2 < w3.heap.size + 1 + 1 := by omega
  have hs4 : 3 < w3.heap.size := by omega
  have hs5 : 3 < w3.heap.size + 1 := by omega
  clear hP1 hP2 hl hrow hP3 hg2 hb3
  generalize S (le2 (bs 0) (bs 1)) = sv at *
  generalize Z (le2 (bs 0) (bs 1)) = zv at *
  generalize hm : isMach (le2 (bs 0) (bs 1)) = mv at *
  have HM : Hid (isMach (le2 (bs 0) (bs 1)) = mv) := hm
  have hfin : ∀ wf, Below w3.heap.size w3 wf → RdTo R C D o n cap bs (k + 3) w wf := fun wf hb => ⟨k1 + 1, by omega, hR3.below hb, hk3.trans (KeepsC.of_below hb)⟩
  clear hm bd
  go_wp2_with fail
  go_region_with (go_at_call 31; refine (le_uint16 w1.heap.size 0 2 2 (fun j => bs (0 + j)) _ (by omega) (by first | exact hrowA _ | exact hrowB)).mono ?_; rintro e w' ⟨rfl, nq, rfl⟩)
  all_goals
    cases mv
    · go_wp2
      go_ret3
      refine ⟨ret_cof0 HM.out, hfin _ ?_⟩
      repeat (first | exact Below.refl _ _ | refine below_drewN ?_ _ | refine Below.drew ?_ | refine Below.setCell ?_ (by simp; try omega) _ | refine Below.alloc ?_ (by simp; try omega) _)
    · go_wp2
      go_ret3
      refine ⟨ret_cof1 HM.out, hfin _ ?_⟩
      repeat (first | exact Below.refl _ _ | refine below_drewN ?_ _ | refine Below.drew ?_ | refine Below.setCell ?_ (by simp; try omega) _ | refine Below.alloc ?_ (by simp; try omega) _)

end Go.Proofs.YbulkblxcFmt
