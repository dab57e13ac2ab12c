import Derived.Test.YbulkblxcFmtFail
namespace Go.Proofs.YbulkblxcFmt
open Go.RowKit Go.Extern.Stop Go.Stop Go.Extern
set_option linter.unusedVariables false

set_option maxRecDepth 100000 in
set_option maxHeartbeats 1000000 in
theorem into_fail_part (F : Interp) (e0 : Addr) (R C D o n cap k off q m : Nat) (bs : Nat → Int) (w : World) (hF : F.answers w.tape) (hE : EofAt w e0) (he : e0.block < w.heap.size) (heC : e0.block ≠ C) (h7C : 7 ≠ C) (H : RdAt R C D o n cap bs true k w) (hk : k ≤ 1000) (hoff : off < n) (hq : n < off + q) (hm : m = n - off) :
    Calls Ybaf.prog 34 #[.pointer (some ⟨R, 0, none⟩), .slice none 0 0, .int .u64 off, .int .u64 q] w fun e w' => Failed C k w e w' := by
  have hn := H.hn
  have hmk := make_bytes .u64 m (by omega)
  have hme := method_read
  have r0 := H.r0
  have r1 := H.r1
  have hR := H.hR
  have hC := H.hC
  have hb1 : Below w.heap.size w (w.alloc (outBox off q n)) := (Below.refl _ _).alloc (Nat.le_refl _) _
  have h7 : 7 < w.heap.size := World.block_lt_of_cell? w _ hE.var
  have hE1 := hE.below hb1 h7 he
  have hF1 : F.answers (w.alloc (outBox off q n)).tape := hF
  have H1 := H.below hb1
  obtain ⟨w1, hw1⟩ : ∃ w1, w.alloc (outBox off q n) = w1 := ⟨_, rfl⟩
  have hs1 : w1.heap.size = w.heap.size + 1 := by rw [← hw1]; simp
  have he1 : e0.block < w1.heap.size := by omega
  rw [hw1] at hb1 hE1 hF1 H1
  have Hb := H1.below ((Below.refl _ _).alloc (Nat.le_refl _) (.cells (madeCells #[.int .u8 0] m) 5))
  obtain ⟨X, hX⟩ : ∃ X, w1.alloc (.cells (madeCells #[.int .u8 0] m) 5) = X := ⟨_, rfl⟩
  have hXs : X.heap.size = w1.heap.size + 1 := by rw [← hX]; simp
  rw [hX] at Hb
  have hbX : Below w1.heap.size w1 X := by rw [← hX]; exact (Below.refl _ _).alloc (Nat.le_refl _) _
  have hrd := read_fail C k (.slice (some ⟨w1.heap.size, 0, none⟩) m m) off X hk Hb.c1 Hb.c2 Hb.f1
  have HR : Hid (Calls Ybaf.prog 71 #[.pointer (some ⟨C, 0, none⟩), .slice (some ⟨w1.heap.size, 0, none⟩) m m, .int .i64 off] X fun e w' => e = .returned (.tuple #[.int .i64 0, .iface 151 (.pointer (some ⟨X.heap.size, 0, none⟩))]) ∧ w' = (X.setCell ⟨C, 1, none⟩ (.int .i64 ((k : Int) + 1))).alloc (.cells #[.string failMsg] 153)) := hrd
  clear hrd
  have HX : Hid (w1.alloc (.cells (madeCells #[.int .u8 0] m) 5) = X) := hX
  clear hX
  have hmk' : (Instr.makeSlice 26 (.int .u64 (m : Int)) (.int .u64 (m : Int))).run Ybaf.prog w1 = .ok (.slice (some ⟨w1.heap.size, 0, none⟩) m m) X := by rw [hmk, HX.out]
  clear hmk
  have x0 := Hb.r0
  have hCX := Hb.hC
  have hc1X := Hb.c1
  obtain ⟨Y, hY⟩ : ∃ Y, (X.setCell ⟨C, 1, none⟩ (.int .i64 ((k : Int) + 1))).alloc (.cells #[.string failMsg] 153) = Y := ⟨_, rfl⟩
  rw [hY] at HR
  have HY : Hid ((X.setCell ⟨C, 1, none⟩ (.int .i64 ((k : Int) + 1))).alloc (.cells #[.string failMsg] 153) = Y) := hY
  have hsh := short_at F e0 C k m off hF1 hE1 he1 heC h7C hbX hXs hY
  have HSH : Hid (∀ wx : World, wx.heap = Y.heap → wx.tape = Y.tape → Calls Ybaf.prog 42 #[.int .u64 off, .int .u64 m, .iface 151 (.pointer (some ⟨X.heap.size, 0, none⟩))] wx fun e w' => Shorted F m off ⟨X.heap.size, 0, none⟩ wx e w') := hsh
  have HFW : Hid (KeepsC C w X) := (KeepsC.of_below hb1).trans (KeepsC.of_below hbX)
  clear hY hF hE he hsh hbX hXs hF1 hE1 he1 hb1 hs1 h7 H1
  have HW1 : Hid (w.alloc (outBox off q n) = w1) := hw1
  clear hw1
  have hpos : 0 < m := by omega
  have hle : m ≤ 1000000 := by omega
  have hez : ((n : Int) - (off : Int)) = (m : Int) := by omega
  have HE : Hid (((n : Int) - (off : Int)) = (m : Int)) := hez
  clear hez hm
  have hoff' : (off : Int) < (n : Int) := by omega
  go_enter Ybaf.func34, Ybaf.ntmps34
  go_upto_region 9 with (first | (go_at_call 41; refine (inside_out R off q n _ (by omega) (by omega) (by omega) (by omega) (by omega) (by exact r1)).mono ?_; rw [if_pos hoff', HE.out, HW1.out]; rintro e w' ⟨rfl, hw'⟩; subst hw') | (go_at_call 71; refine HR.out.mono ?_; rintro e w' ⟨rfl, rfl⟩))
  clear HX hme HR x0 r0 r1 Hb H hR hC
  go_region_with (go_at_call 42; refine (HSH.out _ (by rfl) (by rfl)).mono ?_; rintro e w2 ⟨txt, rfl, rfl⟩)
  all_goals (try go_wp2)
  all_goals (go_ret2; exact failed_any HFW.out hCX hc1X HY.out _ _ rfl rfl rfl rfl)

end Go.Proofs.YbulkblxcFmt
