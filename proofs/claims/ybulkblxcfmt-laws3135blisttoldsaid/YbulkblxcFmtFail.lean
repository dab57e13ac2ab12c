import Derived.Test.YbulkblxcFmtMiss
import Derived.Deep.RegionWith
import Derived.Deep.CutRange
import Derived.WalkKit
namespace Go.Proofs.YbulkblxcFmt
open Go.RowKit Go.Extern.Stop Go.Stop Go.Extern
set_option linter.unusedVariables false

theorem EofAt.below {B : Nat} {w w' : World} {e0 : Addr} (h : EofAt w e0) (hb : Below B w w') (h7 : 7 < B) (he : e0.block < B) : EofAt w' e0 := by
  obtain ⟨c, t, hr⟩ := h.row
  exact ⟨(hb.cell (p := ⟨7, 0, none⟩) h7).trans h.var, c, t, (hb.block _ he).trans hr⟩

abbrev failMsg : ByteArray := ⟨#[122, 122, 115, 51, 49, 51, 53, 99, 58, 32, 114, 101, 97, 100, 32, 102, 97, 105, 108, 115]⟩

set_option maxRecDepth 100000 in
set_option maxHeartbeats 400000 in
theorem read_fail (C k : Nat) (pv : Value) (off : Int) (w : World) (hk : k ≤ 1000) (c1 : w.cell? ⟨C, 1, none⟩ = some (.int .i64 (k : Int))) (c2 : w.cell? ⟨C, 2, none⟩ = some (.bool true)) (f1 : w.frozen? ⟨C, 1, none⟩ = false) :
    Calls Ybaf.prog 71 #[.pointer (some ⟨C, 0, none⟩), pv, .int .i64 off] w fun e w' => e = .returned (.tuple #[.int .i64 0, .iface 151 (.pointer (some ⟨w.heap.size, 0, none⟩))]) ∧ w' = (w.setCell ⟨C, 1, none⟩ (.int .i64 ((k : Int) + 1))).alloc (.cells #[.string failMsg] 153) := by
  go_enter Ybaf.func71, Ybaf.ntmps71
  go_wp2
  go_ret2
  exact ⟨rfl, rfl⟩

/-- What a failing read of the reader leaves. -/
def Failed (C k : Nat) (w : World) (e : Ending) (w' : World) : Prop :=
  ∃ B m p ab : Nat, e = .returned (.tuple #[.slice (some ⟨B, 0, none⟩) 0 m, .iface 150 (.pointer (some ⟨p, 0, none⟩))]) ∧ KeepsC C w w' ∧
    w'.cell? ⟨p, 1, none⟩ = some (.iface 151 (.pointer (some ⟨ab, 0, none⟩))) ∧ w'.cell? ⟨C, 1, none⟩ = some (.int .i64 ((k : Int) + 1))

/-- The world behind the failing ReadAt and shortRead. -/
theorem failed_any {C k B m : Nat} {w X Y w' : World} (hk : KeepsC C w X) (hX : C < X.heap.size) (c1 : X.cell? ⟨C, 1, none⟩ = some (.int .i64 (k : Int)))
    (hY : (X.setCell ⟨C, 1, none⟩ (.int .i64 ((k : Int) + 1))).alloc (.cells #[.string failMsg] 153) = Y) (b1 : Obj) (txt : ByteArray)
    (h1 : w'.os = Y.os) (h2 : w'.tape = Y.tape) (h3 : w'.output = Y.output) (h4 : w'.heap = (Y.heap.push b1).push (.cells #[.string txt, .iface 151 (.pointer (some ⟨X.heap.size, 0, none⟩))] 177)) :
    Failed C k w (.returned (.tuple #[.slice (some ⟨B, 0, none⟩) 0 m, .iface 150 (.pointer (some ⟨Y.heap.size + 1, 0, none⟩))])) w' := by
  have hs : (X.setCell ⟨C, 1, none⟩ (.int .i64 ((k : Int) + 1))).heap.size = X.heap.size := by simp [World.setCell]
  have hYs : Y.heap.size = X.heap.size + 1 := by rw [← hY]; simp [World.setCell]
  have hblk : ∀ b, b < X.heap.size → w'.heap[b]? = (X.setCell ⟨C, 1, none⟩ (.int .i64 ((k : Int) + 1))).heap[b]? := by
    intro b hb
    rw [h4, Array.getElem?_push, if_neg (by simp; omega), Array.getElem?_push, if_neg (by omega), ← hY]
    show ((X.setCell _ _).heap.push _)[b]? = _
    rw [Array.getElem?_push, if_neg (by omega)]
  refine ⟨B, m, _, X.heap.size, rfl, ?_, ?_, ?_⟩
  · refine hk.trans ⟨?_, ?_, ?_, ?_, ?_⟩
    · rw [h1, ← hY]; rfl
    · rw [h2, ← hY]; rfl
    · rw [h3, ← hY]; rfl
    · rw [h4]; simp; omega
    · intro b hb hne
      rw [hblk b hb, Below.heap_setCell _ _ _ _ hne]
  · have : w'.heap[Y.heap.size + 1]? = some (.cells #[.string txt, .iface 151 (.pointer (some ⟨X.heap.size, 0, none⟩))] 177) := by
      rw [h4, Array.getElem?_push, if_pos (by simp)]
    rw [cell_of_row _ _ _ _ _ _ this]
    rfl
  · rw [World.cell?_of_block (a := ⟨C, 1, none⟩) (hblk C hX)]
    exact World.cell?_setCell_same _ _ _ c1

theorem short_at (F : Interp) (e0 : Addr) (C k m off : Nat) {w X Y : World} (hF : F.answers w.tape) (hE : EofAt w e0) (he : e0.block < w.heap.size) (heC : e0.block ≠ C) (h7C : 7 ≠ C) (hbX : Below w.heap.size w X) (hXs : X.heap.size = w.heap.size + 1)
    (hY : (X.setCell ⟨C, 1, none⟩ (.int .i64 ((k : Int) + 1))).alloc (.cells #[.string failMsg] 153) = Y) :
    ∀ wx : World, wx.heap = Y.heap → wx.tape = Y.tape → Calls Ybaf.prog 42 #[.int .u64 off, .int .u64 m, .iface 151 (.pointer (some ⟨X.heap.size, 0, none⟩))] wx fun e w' => Shorted F m off ⟨X.heap.size, 0, none⟩ wx e w' := by
  have hsX : (X.setCell ⟨C, 1, none⟩ (.int .i64 ((k : Int) + 1))).heap.size = X.heap.size := by simp [World.setCell]
  have hbYX : ∀ b, b < X.heap.size → b ≠ C → Y.heap[b]? = X.heap[b]? := by
    intro b hb hne
    rw [← hY, Below.heap_alloc _ _ _ (by rw [hsX]; exact hb), Below.heap_setCell _ _ _ _ hne]
  have hEY : EofAt Y e0 := by
    have h7 : 7 < w.heap.size := World.block_lt_of_cell? w _ hE.var
    obtain ⟨c, t, hr⟩ := hE.row
    refine ⟨?_, c, t, ?_⟩
    · rw [World.cell?_of_block (a := ⟨7, 0, none⟩) (hbYX 7 (by omega) h7C)]
      exact (hbX.cell (p := ⟨7, 0, none⟩) h7).trans hE.var
    · rw [hbYX _ (by omega) heC]
      exact (hbX.block _ he).trans hr
  have hnewY : Y.heap[X.heap.size]? = some (.cells #[.string failMsg] 153 (0, 0)) := by
    have := heap_alloc_new (X.setCell ⟨C, 1, none⟩ (.int .i64 ((k : Int) + 1))) (.cells #[.string failMsg] 153)
    rw [hsX, hY] at this
    exact this
  have hFY : F.answers Y.tape := by
    have ht : Y.tape = w.tape := by rw [← hY]; exact hbX.tape
    rw [ht]; exact hF
  have hne0 : (⟨X.heap.size, 0, none⟩ : Addr) ≠ e0 := by intro e; rw [← e] at he; simp at he; omega
  intro wx hh ht
  have hce : ∀ a, wx.cell? a = Y.cell? a := by intro a; unfold World.cell?; rw [hh]
  obtain ⟨c, t, hr⟩ := hEY.row
  exact short_err F m off X.heap.size failMsg e0 wx (by rw [ht]; exact hFY) ⟨by rw [hce]; exact hEY.var, c, t, by rw [hh]; exact hr⟩ hne0 (by rw [hh]; exact hnewY) (by rw [hce, cell_of_row _ _ _ _ _ _ hnewY]; rfl)

set_option maxRecDepth 100000 in
set_option maxHeartbeats 1000000 in
theorem into_fail (F : Interp) (e0 : Addr) (R C D o n cap k off m : Nat) (bs : Nat → Int) (w : World) (hF : F.answers w.tape) (hE : EofAt w e0) (he : e0.block < w.heap.size) (heC : e0.block ≠ C) (h7C : 7 ≠ C) (H : RdAt R C D o n cap bs true k w) (hk : k ≤ 1000) (hm : 0 < m) (hfit : off + m ≤ n) :
    Calls Ybaf.prog 34 #[.pointer (some ⟨R, 0, none⟩), .slice none 0 0, .int .u64 off, .int .u64 m] w fun e w' => Failed C k w e w' := by
  have hn := H.hn
  have hmk := make_bytes .u64 m (by omega)
  have hme := method_read
  have r0 := H.r0
  have r1 := H.r1
  have hR := H.hR
  have hC := H.hC
  have Hb := H.below ((Below.refl _ _).alloc (Nat.le_refl _) (.cells (madeCells #[.int .u8 0] m) 5))
  obtain ⟨X, hX⟩ : ∃ X, w.alloc (.cells (madeCells #[.int .u8 0] m) 5) = X := ⟨_, rfl⟩
  have hXs : X.heap.size = w.heap.size + 1 := by rw [← hX]; simp
  rw [hX] at Hb
  have hbX : Below w.heap.size w X := by rw [← hX]; exact (Below.refl _ _).alloc (Nat.le_refl _) _
  have hrd := read_fail C k (.slice (some ⟨w.heap.size, 0, none⟩) m m) off X hk Hb.c1 Hb.c2 Hb.f1
  have HR : Hid (Calls Ybaf.prog 71 #[.pointer (some ⟨C, 0, none⟩), .slice (some ⟨w.heap.size, 0, none⟩) m m, .int .i64 off] X fun e w' => e = .returned (.tuple #[.int .i64 0, .iface 151 (.pointer (some ⟨X.heap.size, 0, none⟩))]) ∧ w' = (X.setCell ⟨C, 1, none⟩ (.int .i64 ((k : Int) + 1))).alloc (.cells #[.string failMsg] 153)) := hrd
  clear hrd
  have HX : Hid (w.alloc (.cells (madeCells #[.int .u8 0] m) 5) = X) := hX
  clear hX
  have hmk' : (Instr.makeSlice 26 (.int .u64 (m : Int)) (.int .u64 (m : Int))).run Ybaf.prog w = .ok (.slice (some ⟨w.heap.size, 0, none⟩) m m) X := by rw [hmk, HX.out]
  clear hmk
  have x0 := Hb.r0
  have hCX := Hb.hC
  have hc1X := Hb.c1
  obtain ⟨Y, hY⟩ : ∃ Y, (X.setCell ⟨C, 1, none⟩ (.int .i64 ((k : Int) + 1))).alloc (.cells #[.string failMsg] 153) = Y := ⟨_, rfl⟩
  rw [hY] at HR
  have HY : Hid ((X.setCell ⟨C, 1, none⟩ (.int .i64 ((k : Int) + 1))).alloc (.cells #[.string failMsg] 153) = Y) := hY
  have hsh := short_at F e0 C k m off hF hE he heC h7C hbX hXs hY
  have HSH : Hid (∀ wx : World, wx.heap = Y.heap → wx.tape = Y.tape → Calls Ybaf.prog 42 #[.int .u64 off, .int .u64 m, .iface 151 (.pointer (some ⟨X.heap.size, 0, none⟩))] wx fun e w' => Shorted F m off ⟨X.heap.size, 0, none⟩ wx e w') := hsh
  have HFW : Hid (KeepsC C w X) := KeepsC.of_below hbX
  clear hY hF hE he hsh hbX hXs
  go_enter Ybaf.func34, Ybaf.ntmps34
  go_upto_region 9 with (first | (go_at_call 41; refine (inside_ok R off m n _ (by omega) (by omega) (by omega) (by omega) (by exact r1)).mono ?_; rintro e w' ⟨rfl, hw'⟩; subst hw') | (go_at_call 71; refine HR.out.mono ?_; rintro e w' ⟨rfl, rfl⟩))
  clear HX hme HR x0 r0 r1 Hb H hR hC
  go_region_with (go_at_call 42; refine (HSH.out _ (by rfl) (by rfl)).mono ?_; rintro e w2 ⟨txt, rfl, rfl⟩)
  all_goals (try go_wp2)
  all_goals (go_ret2; exact failed_any HFW.out hCX hc1X HY.out _ _ rfl rfl rfl rfl)

end Go.Proofs.YbulkblxcFmt
