import Derived.Test.YbulkblxcFmtModel
namespace Go.Proofs.YbulkblxcFmt
open Go.RowKit Go.Extern.Stop Go.Stop Go.Extern
set_option linter.unusedVariables false

/-- What the law is told of its slice. -/
def DataIn (w : World) (a : Option Addr) (n : Nat) (bs : Nat → Int) : Prop := 0 < n → ∃ g o, a = some ⟨g, o, none⟩ ∧ Bytes w g o n bs ∧ g < w.heap.size

theorem DataIn.clone {w : World} {a : Option Addr} {n : Nat} {bs : Nat → Int} (h : DataIn w a n bs) : 0 < n → ∃ g o, a = some ⟨g, o, none⟩ ∧ Bytes w g o n bs :=
  fun h0 => by obtain ⟨g, o, h1, h2, _⟩ := h h0; exact ⟨g, o, h1, h2⟩

theorem rd_law {n : Nat} {bs : Nat → Int} {fl : Bool} {w w1 w3 : World} (hB : Bytes w1 w.heap.size 0 n bs) (hs : w1.heap.size = w.heap.size + 1) (hn : n ≤ 4096)
    (hw3 : w3 = (w1.alloc (.cells #[.slice (some ⟨w.heap.size, 0, none⟩) n n, .int .i64 0, .bool fl] 57)).alloc (.cells #[.iface 55 (.pointer (some ⟨w1.heap.size, 0, none⟩)), .int .u64 (n : Int)] 70)) :
    RdAt (w1.heap.size + 1) w1.heap.size w.heap.size 0 n n bs fl 0 w3 ∧ Below w1.heap.size w1 w3 := by
  rw [hw3]
  exact ⟨rd_start hB (by omega) (by omega) (Nat.le_refl _) (by omega), ((Below.refl _ _).alloc (Nat.le_refl _) _).alloc (by simp) _⟩

set_option maxRecDepth 100000 in
set_option maxHeartbeats 1000000 in
theorem cm_fail (F : Interp) (e0 : Addr) (M mo mc bm n cap : Nat) (a : Option Addr) (bs : Nat → Int) (w : World) (P : PeW w.heap.size M mo mc bm w) (hF : F.answers w.tape) (hE : EofAt w e0) (he : e0.block < w.heap.size) (hn : n ≤ 4096) (h0 : 0 < n) (h : DataIn w a n bs) :
    Calls Ybaf.prog 5 #[.slice a n cap, .bool true] w fun e w' => e = .returned (.bool true) ∧ Below w.heap.size w w' := by
  have hcl := clone_bytes a n cap bs w hn h.clone
  have hnz : ¬ (n : Int) = 0 := by omega
  have h4 : ¬ (4096 : Int) < (n : Int) := by omega
  go_enter Ybaf.func5, Ybaf.ntmps5
  go_wp2_with fail
  refine hcl.mono ?_
  rintro e w1 ⟨rfl, hb1, hB1, hs1⟩
  have HS : Hid (w1.heap.size = w.heap.size + 1) := hs1
  clear hs1 hcl
  go_wp2_with fail
  refine (new_any 55 ⟨w1.heap.size, 0, none⟩ (n : Int) _ (by omega) (by omega)).mono ?_
  rintro e w3 ⟨rfl, hw3⟩
  obtain ⟨hrd, hb3⟩ := rd_law hB1 HS.out hn hw3
  rw [show (w1.alloc (.cells #[.slice (some ⟨w.heap.size, 0, none⟩) n n, .int .i64 0, .bool true] 57)).heap.size = w1.heap.size + 1 from by simp]
  have hb3' : Below w.heap.size w w3 := hb1.trans (hb3.mono (by have := HS.out; omega))
  have hP3 := P.below hb3'
  have h7 : 7 < w.heap.size := World.block_lt_of_cell? w _ hE.var
  have hE3 := hE.below hb3' h7 he
  have hF3 : F.answers w3.tape := by rw [hb3'.tape]; exact hF
  clear hw3
  have hloc := loc_fail F e0 w.heap.size M mo mc bm _ _ _ _ _ _ _ bs w3 hP3 hF3 hE3 he hrd (by omega) (by have := HS.out; omega) h0
  clear hF3 hE3 hF hE
  go_wp2_with fail
  refine hloc.mono ?_
  rintro e w4 ⟨p, rfl, ab, hk4, hp4, hc4⟩
  have hb4 : Below w.heap.size w3 w4 := hk4.below (by have := HS.out; omega) hP3.hB
  have hP4 := hP3.below hb4
  have hC4 := World.block_lt_of_cell? w4 _ hc4
  have hc4' : w4.cell? ⟨w1.heap.size, 1, none⟩ = some (.int .i64 1) := hc4
  clear hc4 hloc
  go_wp2_with (go_at_call 16; refine (isOut_miss p ab _ hP4.errT hp4).mono ?_; rintro e w5 ⟨rfl, hb5⟩; have hc5 : w5.cell? ⟨w1.heap.size, 1, none⟩ = some (.int .i64 1) := (hb5.cell (p := ⟨w1.heap.size, 1, none⟩) hC4).trans hc4')
  go_ret
  exact ⟨rfl, (hb3'.trans hb4).trans (hb5.mono hP4.hB)⟩

set_option maxRecDepth 100000 in
set_option maxHeartbeats 1000000 in
theorem cm_fail0 (M mo mc bm cap : Nat) (a : Option Addr) (w : World) (P : PeW w.heap.size M mo mc bm w) :
    Calls Ybaf.prog 5 #[.slice a 0 cap, .bool true] w fun e w' => e = .returned (.bool true) ∧ Below w.heap.size w w' := by
  have hcl := clone_bytes a 0 cap (fun _ => 0) w (by omega) (fun h => by omega)
  go_enter Ybaf.func5, Ybaf.ntmps5
  go_wp2_with fail
  refine hcl.mono ?_
  rintro e w1 ⟨rfl, hb1, hB1, hs1⟩
  have HS : Hid (w1.heap.size = w.heap.size + 1) := hs1
  clear hs1 hcl
  go_wp2_with fail
  refine (new_any 55 ⟨w1.heap.size, 0, none⟩ 0 _ (by omega) (by omega)).mono ?_
  rintro e w3 ⟨rfl, hw3⟩
  obtain ⟨hrd, hb3⟩ := rd_law (n := 0) hB1 HS.out (by omega) hw3
  rw [show (w1.alloc (.cells #[.slice (some ⟨w.heap.size, 0, none⟩) 0 0, .int .i64 0, .bool true] 57)).heap.size = w1.heap.size + 1 from by simp]
  have hb3' : Below w.heap.size w w3 := hb1.trans (hb3.mono (by have := HS.out; omega))
  have hP3 := P.below hb3'
  clear hw3
  have hloc := loc_zero w.heap.size M mo mc bm _ _ _ _ _ _ _ _ _ w3 hP3 hrd rfl
  go_wp2_with fail
  refine hloc.mono ?_
  rintro e w4 ⟨rfl, hb4⟩
  go_wp2
  go_ret
  exact ⟨rfl, hb3'.trans (hb4.mono hP3.hB)⟩

/-- locate, whatever the bytes, with a reader that does not fail. -/
theorem loc_all (B0 M mo mc bm R C D o n cap k : Nat) (bs : Nat → Int) (w : World) (P : PeW B0 M mo mc bm w) (H : RdAt R C D o n cap bs false k w) (hk : k ≤ 800) (hCB : B0 ≤ C) :
    Calls Ybaf.prog 15 #[.pointer (some ⟨R, 0, none⟩)] w fun e w' => e = .returned (.tuple #[.string (modS n bs), .int .u64 (modN n bs), .nilIface]) ∧ RdTo R C D o n cap bs (k + 3) w w' := by
  cases hmz : isMZ n bs
  · by_cases h2 : n < 2
    · have e1 : modS n bs = ⟨#[]⟩ := by simp [modS, hmz, h2]
      have e2 : modN n bs = 0 := by simp [modN, hmz]
      rw [e1, e2]
      exact loc_empty B0 M mo mc bm R C D o n cap k bs w P H hk hCB h2
    · have e1 : modS n bs = cofS (isMach (le2 (bs 0) (bs 1))) := by simp [modS, hmz, h2]
      have e2 : modN n bs = 0 := by simp [modN, hmz]
      rw [e1, e2]
      exact loc_obj B0 M mo mc bm R C D o n cap k bs w P H hk hCB (by omega) hmz
  · have e1 : modS n bs = peS (decide (64 ≤ n) && isPE n bs) := by simp [modS, hmz]
    have e2 : modN n bs = peN (decide (64 ≤ n) && isPE n bs) (lfa bs) := by simp [modN, hmz]
    rw [e1, e2]
    exact loc_mz B0 M mo mc bm R C D o n cap k bs w P H hk hCB hmz

set_option maxRecDepth 100000 in
set_option maxHeartbeats 2000000 in
theorem cm_ok (M mo mc bm n cap : Nat) (a : Option Addr) (bs : Nat → Int) (w : World) (P : PeW w.heap.size M mo mc bm w) (hn : n ≤ 4096) (h : DataIn w a n bs) :
    Calls Ybaf.prog 5 #[.slice a n cap, .bool false] w fun e w' => e = .returned (.bool true) ∧ Below w.heap.size w w' := by
  have hcl := clone_bytes a n cap bs w hn h.clone
  have h4 : ¬ (4096 : Int) < (n : Int) := by omega
  go_enter Ybaf.func5, Ybaf.ntmps5
  go_wp2_with fail
  refine hcl.mono ?_
  rintro e w1 ⟨rfl, hb1, hB1, hs1⟩
  have HS : Hid (w1.heap.size = w.heap.size + 1) := hs1
  clear hs1 hcl
  go_wp2_with fail
  refine (new_any 55 ⟨w1.heap.size, 0, none⟩ (n : Int) _ (by omega) (by omega)).mono ?_
  rintro e w3 ⟨rfl, hw3⟩
  obtain ⟨hrd, hb3⟩ := rd_law hB1 HS.out hn hw3
  rw [show (w1.alloc (.cells #[.slice (some ⟨w.heap.size, 0, none⟩) n n, .int .i64 0, .bool false] 57)).heap.size = w1.heap.size + 1 from by simp]
  have hb3' : Below w.heap.size w w3 := hb1.trans (hb3.mono (by have := HS.out; omega))
  have hP3 := P.below hb3'
  clear hw3
  have hloc := loc_all w.heap.size M mo mc bm _ _ _ _ _ _ _ bs w3 hP3 hrd (by omega) (by have := HS.out; omega)
  go_wp2_with fail
  refine hloc.mono ?_
  rintro e w4 ⟨rfl, k4, _, hR4, hk4⟩
  have hb4 : Below w.heap.size w w4 := hb3'.trans (hk4.below (by have := HS.out; omega) hP3.hB)
  have hB4 := hR4.data
  have hmod := model_any w.heap.size n bs w4 hn hB4
  clear hloc hR4 hk4 hB1 hb3 hb3' hP3 hrd
  generalize hsv : modS n bs = sv at hmod ⊢
  generalize hnv : modN n bs = nv at hmod ⊢
  have HSV : Hid (modS n bs = sv ∧ modN n bs = nv) := ⟨hsv, hnv⟩
  clear hsv hnv
  go_wp2_with fail
  refine hmod.mono ?_
  rintro e w5 ⟨rfl, m5, rfl⟩
  rw [HSV.out.1, HSV.out.2]
  clear hmod
  go_wp2
  go_loopw [13] (fun i wr => ∃ k m : Nat, k ≤ n ∧ i = .int .i64 k ∧ wr = w4.drewN m) (fun i _ => n - (intOf i).toNat)
  case atStart => exact ⟨0, _, Nat.zero_le _, rfl, rfl⟩
  case round =>
    obtain ⟨k, m, hk, rfl, rfl⟩ := hrel
    by_cases hlt : k < n
    · obtain ⟨g, o, ha, hB, hg⟩ := h (by omega)
      subst ha
      have e1 : w4.cell? ⟨w.heap.size, k, none⟩ = some (.int .u8 (bs k)) := by have := hB4.at k hlt; rwa [Nat.zero_add] at this
      have e2 := (hB.below hb4 hg).at k hlt
      have hlt' : (k : Int) < (n : Int) := by omega
      go_wp2
      go_quiet (fail)
      go_wp2
      go_roundw
      case rel => exact ⟨k + 1, _, by omega, by go_num, rfl⟩
      case measure => simp [intOf]; omega
    · have hnk : ¬ (k : Int) < (n : Int) := by omega
      go_wp2
      go_ret
      exact ⟨rfl, hb4.trans ⟨rfl, rfl, rfl, Nat.le_refl _, fun _ _ => rfl⟩⟩
end Go.Proofs.YbulkblxcFmt
