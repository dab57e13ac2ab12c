import Derived.Test.YbulkblxcFmtBRead
import Derived.Test.YbulkblxcFmtFail
namespace Go.Proofs.YbulkblxcFmt
open Go.RowKit Go.Extern.Stop Go.Stop Go.Extern
set_option linter.unusedVariables false

abbrev bfailMsg : ByteArray := ⟨#[122, 122, 32, 114, 101, 97, 100, 32, 102, 97, 105, 108, 115]⟩

set_option maxRecDepth 100000 in
set_option maxHeartbeats 400000 in
theorem bread_fail (C : Nat) (pv : Value) (off : Int) (w : World) (c1 : w.cell? ⟨C, 1, none⟩ = some (.bool true)) :
    Calls Ybaf.prog 70 #[.pointer (some ⟨C, 0, none⟩), pv, .int .i64 off] w fun e w' => e = .returned (.tuple #[.int .i64 0, .iface 151 (.pointer (some ⟨w.heap.size, 0, none⟩))]) ∧ w' = w.alloc (.cells #[.string bfailMsg] 153) := by
  go_enter Ybaf.func70, Ybaf.ntmps70
  go_wp2
  go_ret2
  exact ⟨rfl, rfl⟩

/-- What a failing read of the reader leaves. -/
def BFailed (w : World) (e : Ending) (w' : World) : Prop :=
  ∃ B m p ab : Nat, e = .returned (.tuple #[.slice (some ⟨B, 0, none⟩) 0 m, .iface 150 (.pointer (some ⟨p, 0, none⟩))]) ∧ Below w.heap.size w w' ∧
    w'.cell? ⟨p, 1, none⟩ = some (.iface 151 (.pointer (some ⟨ab, 0, none⟩)))

theorem bfailed_any {B m : Nat} {w X Y w' : World} (hk : Below w.heap.size w X)
    (hY : X.alloc (.cells #[.string bfailMsg] 153) = Y) (b1 : Obj) (txt : ByteArray)
    (h1 : w'.os = Y.os) (h2 : w'.tape = Y.tape) (h3 : w'.output = Y.output) (h4 : w'.heap = (Y.heap.push b1).push (.cells #[.string txt, .iface 151 (.pointer (some ⟨X.heap.size, 0, none⟩))] 177)) :
    BFailed w (.returned (.tuple #[.slice (some ⟨B, 0, none⟩) 0 m, .iface 150 (.pointer (some ⟨Y.heap.size + 1, 0, none⟩))])) w' := by
  have hYs : Y.heap.size = X.heap.size + 1 := by rw [← hY]; simp
  have hXw := hk.size
  have hbY : Below w.heap.size w Y := by rw [← hY]; exact hk.alloc hXw _
  have hblk : ∀ b, b < w.heap.size → w'.heap[b]? = Y.heap[b]? := by
    intro b hb
    rw [h4, Array.getElem?_push, if_neg (by simp; omega), Array.getElem?_push, if_neg (by omega)]
  refine ⟨B, m, _, X.heap.size, rfl, ?_, ?_⟩
  · refine ⟨by rw [h1]; exact hbY.os, by rw [h2]; exact hbY.tape, by rw [h3]; exact hbY.output, by rw [h4]; simp; omega, ?_⟩
    intro b hb
    rw [hblk b hb]; exact hbY.block b hb
  · have : w'.heap[Y.heap.size + 1]? = some (.cells #[.string txt, .iface 151 (.pointer (some ⟨X.heap.size, 0, none⟩))] 177) := by
      rw [h4, Array.getElem?_push, if_pos (by simp)]
    rw [cell_of_row _ _ _ _ _ _ this]
    rfl

theorem bshort_at (F : Interp) (e0 : Addr) (m off : Nat) {w X Y : World} (hF : F.answers w.tape) (hE : EofAt w e0) (he : e0.block < w.heap.size) (hbX : Below w.heap.size w X)
    (hY : X.alloc (.cells #[.string bfailMsg] 153) = Y) :
    ∀ wx : World, wx.heap = Y.heap → wx.tape = Y.tape → Calls Ybaf.prog 42 #[.int .u64 off, .int .u64 m, .iface 151 (.pointer (some ⟨X.heap.size, 0, none⟩))] wx fun e w' => Shorted F m off ⟨X.heap.size, 0, none⟩ wx e w' := by
  have hXw := hbX.size
  have hbY : Below w.heap.size w Y := by rw [← hY]; exact hbX.alloc hXw _
  have hEY : EofAt Y e0 := hE.below hbY (World.block_lt_of_cell? w _ hE.var) he
  have hnewY : Y.heap[X.heap.size]? = some (.cells #[.string bfailMsg] 153 (0, 0)) := by
    have := heap_alloc_new X (.cells #[.string bfailMsg] 153)
    rw [hY] at this
    exact this
  have hFY : F.answers Y.tape := by rw [hbY.tape]; exact hF
  have hne0 : (⟨X.heap.size, 0, none⟩ : Addr) ≠ e0 := by intro e; rw [← e] at he; simp at he; omega
  intro wx hh ht
  have hce : ∀ a, wx.cell? a = Y.cell? a := by intro a; unfold World.cell?; rw [hh]
  obtain ⟨c, t, hr⟩ := hEY.row
  exact short_err F m off X.heap.size bfailMsg e0 wx (by rw [ht]; exact hFY) ⟨by rw [hce]; exact hEY.var, c, t, by rw [hh]; exact hr⟩ hne0 (by rw [hh]; exact hnewY) (by rw [hce, cell_of_row _ _ _ _ _ _ hnewY]; rfl)

set_option maxRecDepth 100000 in
set_option maxHeartbeats 1000000 in
theorem binto_fail (F : Interp) (e0 : Addr) (R C D o n cap off m : Nat) (bs : Nat → Int) (w : World) (hF : F.answers w.tape) (hE : EofAt w e0) (he : e0.block < w.heap.size) (H : RbAt R C D o n cap bs true w) (hm : 0 < m) (hfit : off + m ≤ n) :
    Calls Ybaf.prog 34 #[.pointer (some ⟨R, 0, none⟩), .slice none 0 0, .int .u64 off, .int .u64 m] w fun e w' => BFailed w e w' := by
  have hn := H.hn
  have hmk := make_bytes .u64 m (by omega)
  have hme := method_readB
  have r0 := H.r0
  have r1 := H.r1
  have hR := H.hR
  have hC := H.hC
  have Hb := H.below ((Below.refl _ _).alloc (Nat.le_refl _) (.cells (madeCells #[.int .u8 0] m) 5))
  obtain ⟨X, hX⟩ : ∃ X, w.alloc (.cells (madeCells #[.int .u8 0] m) 5) = X := ⟨_, rfl⟩
  rw [hX] at Hb
  have hbX : Below w.heap.size w X := by rw [← hX]; exact (Below.refl _ _).alloc (Nat.le_refl _) _
  have hrd := bread_fail C (.slice (some ⟨w.heap.size, 0, none⟩) m m) off X Hb.c1
  have HR : Hid (Calls Ybaf.prog 70 #[.pointer (some ⟨C, 0, none⟩), .slice (some ⟨w.heap.size, 0, none⟩) m m, .int .i64 off] X fun e w' => e = .returned (.tuple #[.int .i64 0, .iface 151 (.pointer (some ⟨X.heap.size, 0, none⟩))]) ∧ w' = X.alloc (.cells #[.string bfailMsg] 153)) := hrd
  clear hrd
  have HX : Hid (w.alloc (.cells (madeCells #[.int .u8 0] m) 5) = X) := hX
  clear hX
  have hmk' : (Instr.makeSlice 26 (.int .u64 (m : Int)) (.int .u64 (m : Int))).run Ybaf.prog w = .ok (.slice (some ⟨w.heap.size, 0, none⟩) m m) X := by rw [hmk, HX.out]
  clear hmk
  have x0 := Hb.r0
  obtain ⟨Y, hY⟩ : ∃ Y, X.alloc (.cells #[.string bfailMsg] 153) = Y := ⟨_, rfl⟩
  rw [hY] at HR
  have HY : Hid (X.alloc (.cells #[.string bfailMsg] 153) = Y) := hY
  have hsh := bshort_at F e0 m off hF hE he hbX hY
  have HSH : Hid (∀ wx : World, wx.heap = Y.heap → wx.tape = Y.tape → Calls Ybaf.prog 42 #[.int .u64 off, .int .u64 m, .iface 151 (.pointer (some ⟨X.heap.size, 0, none⟩))] wx fun e w' => Shorted F m off ⟨X.heap.size, 0, none⟩ wx e w') := hsh
  have HFW : Hid (Below w.heap.size w X) := hbX
  clear hY hF hE he hsh hbX
  go_enter Ybaf.func34, Ybaf.ntmps34
  go_upto_region 9 with (first | (go_at_call 41; refine (inside_ok R off m n _ (by omega) (by omega) (by omega) (by omega) (by exact r1)).mono ?_; rintro e w' ⟨rfl, hw'⟩; subst hw') | (go_at_call 70; refine HR.out.mono ?_; rintro e w' ⟨rfl, rfl⟩))
  clear HX hme HR x0 r0 r1 Hb H hR hC
  go_region_with (go_at_call 42; refine (HSH.out _ (by rfl) (by rfl)).mono ?_; rintro e w2 ⟨txt, rfl, rfl⟩)
  all_goals (try go_wp2)
  all_goals (go_ret2; exact bfailed_any HFW.out HY.out _ _ rfl rfl rfl rfl)

set_option maxRecDepth 100000 in
set_option maxHeartbeats 1000000 in
theorem binto_fail_part (F : Interp) (e0 : Addr) (R C D o n cap off q m : Nat) (bs : Nat → Int) (w : World) (hF : F.answers w.tape) (hE : EofAt w e0) (he : e0.block < w.heap.size) (H : RbAt R C D o n cap bs true w) (hoff : off < n) (hq : n < off + q) (hm : m = n - off) :
    Calls Ybaf.prog 34 #[.pointer (some ⟨R, 0, none⟩), .slice none 0 0, .int .u64 off, .int .u64 q] w fun e w' => BFailed w e w' := by
  have hn := H.hn
  have hmk := make_bytes .u64 m (by omega)
  have hme := method_readB
  have r0 := H.r0
  have r1 := H.r1
  have hR := H.hR
  have hC := H.hC
  have hb1 : Below w.heap.size w (w.alloc (outBox off q n)) := (Below.refl _ _).alloc (Nat.le_refl _) _
  have h7 : 7 < w.heap.size := World.block_lt_of_cell? w _ hE.var
  have hE1 := hE.below hb1 h7 he
  have hF1 : F.answers (w.alloc (outBox off q n)).tape := hF
  have H1 := H.below hb1
  obtain ⟨w1, hw1⟩ : ∃ w1, w.alloc (outBox off q n) = w1 := ⟨_, rfl⟩
  have hs1 : w1.heap.size = w.heap.size + 1 := by rw [← hw1]; simp
  have he1 : e0.block < w1.heap.size := by omega
  rw [hw1] at hb1 hE1 hF1 H1
  have Hb := H1.below ((Below.refl _ _).alloc (Nat.le_refl _) (.cells (madeCells #[.int .u8 0] m) 5))
  obtain ⟨X, hX⟩ : ∃ X, w1.alloc (.cells (madeCells #[.int .u8 0] m) 5) = X := ⟨_, rfl⟩
  rw [hX] at Hb
  have hbX : Below w1.heap.size w1 X := by rw [← hX]; exact (Below.refl _ _).alloc (Nat.le_refl _) _
  have hrd := bread_fail C (.slice (some ⟨w1.heap.size, 0, none⟩) m m) off X Hb.c1
  have HR : Hid (Calls Ybaf.prog 70 #[.pointer (some ⟨C, 0, none⟩), .slice (some ⟨w1.heap.size, 0, none⟩) m m, .int .i64 off] X fun e w' => e = .returned (.tuple #[.int .i64 0, .iface 151 (.pointer (some ⟨X.heap.size, 0, none⟩))]) ∧ w' = X.alloc (.cells #[.string bfailMsg] 153)) := hrd
  clear hrd
  have HX : Hid (w1.alloc (.cells (madeCells #[.int .u8 0] m) 5) = X) := hX
  clear hX
  have hmk' : (Instr.makeSlice 26 (.int .u64 (m : Int)) (.int .u64 (m : Int))).run Ybaf.prog w1 = .ok (.slice (some ⟨w1.heap.size, 0, none⟩) m m) X := by rw [hmk, HX.out]
  clear hmk
  have x0 := Hb.r0
  obtain ⟨Y, hY⟩ : ∃ Y, X.alloc (.cells #[.string bfailMsg] 153) = Y := ⟨_, rfl⟩
  rw [hY] at HR
  have HY : Hid (X.alloc (.cells #[.string bfailMsg] 153) = Y) := hY
  have hsh := bshort_at F e0 m off hF1 hE1 he1 hbX hY
  have HSH : Hid (∀ wx : World, wx.heap = Y.heap → wx.tape = Y.tape → Calls Ybaf.prog 42 #[.int .u64 off, .int .u64 m, .iface 151 (.pointer (some ⟨X.heap.size, 0, none⟩))] wx fun e w' => Shorted F m off ⟨X.heap.size, 0, none⟩ wx e w') := hsh
  have HFW : Hid (Below w.heap.size w X) := hb1.trans (hbX.mono hb1.size)
  clear hY hF hE he hsh hbX hF1 hE1 he1 hb1 hs1 h7 H1
  have HW1 : Hid (w.alloc (outBox off q n) = w1) := hw1
  clear hw1
  have hpos : 0 < m := by omega
  have hle : m ≤ 1000000 := by omega
  have hez : ((n : Int) - (off : Int)) = (m : Int) := by omega
  have HE : Hid (((n : Int) - (off : Int)) = (m : Int)) := hez
  clear hez hm
  have hoff' : (off : Int) < (n : Int) := by omega
  go_enter Ybaf.func34, Ybaf.ntmps34
  go_upto_region 9 with (first | (go_at_call 41; refine (inside_out R off q n _ (by omega) (by omega) (by omega) (by omega) (by omega) (by exact r1)).mono ?_; rw [if_pos hoff', HE.out, HW1.out]; rintro e w' ⟨rfl, hw'⟩; subst hw') | (go_at_call 70; refine HR.out.mono ?_; rintro e w' ⟨rfl, rfl⟩))
  clear HX hme HR x0 r0 r1 Hb H hR hC
  go_region_with (go_at_call 42; refine (HSH.out _ (by rfl) (by rfl)).mono ?_; rintro e w2 ⟨txt, rfl, rfl⟩)
  all_goals (try go_wp2)
  all_goals (go_ret2; exact bfailed_any HFW.out HY.out _ _ rfl rfl rfl rfl)

end Go.Proofs.YbulkblxcFmt
