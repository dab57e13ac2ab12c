import Derived.Test.YbulkblxcSym
import Derived.ProofKit
import Derived.OpenShut
import Derived.ShutString
namespace Go.Proofs.Ybulkblxc.lawS3135AOrder
open Go.ChangeShapes Go.WideShapes Go.ChangeAt Go.RowKit
open Go.ChangeMaps (open_string shut_string)
set_option linter.unusedVariables false

theorem own : ownKnob Yba.prog.godebug = none := by kernel_rfl

theorem info5 : (Yba.prog.info? 5).map (fun i => (i.zero, i.size, i.bytes)) = some (some (.int .u8 0), 1, 1) := by kernel_rfl

theorem make_L (n : Nat) (hn : n ≤ 255) : ∀ wx, (Instr.makeSlice 22 (.int .i64 ((n : Int) % 40)) (.int .i64 ((n : Int) % 40))).run Yba.prog wx = .ok (.slice (some ⟨wx.heap.size, 0, none⟩) (n % 40) (n % 40)) (wx.alloc (.cells (madeCells #[.int .u8 0] (n % 40)) 5)) := by
  obtain ⟨i0, hi, hz0, hz1, hz2⟩ := info_parts info5
  intro wx
  have h := run_make (P := Yba.prog) (w := wx) 22 5 i0 (.int .u8 0) Yba.underlying22 hi hz0 .i64 .i64 ((n : Int) % 40) ((n : Int) % 40) (by omega) (by omega) (by rw [hz2]; omega) (by omega)
  rw [h, hz1, show ((n : Int) % 40).toNat = n % 40 from by omega, Nat.mul_one]
  rfl

theorem ord_start (w : World) (a1 a2 : Int) (o3 o4 : Obj) : LogAt (w.heap.size + 1) (w.heap.size + 2) w.heap.size a1 a2 0 [] (.slice none 0 0)
    ((((w.alloc (.cells #[.int .u32 a1, .int .u32 a2] 36)).alloc (.cells #[.slice none 0 0, .slice (some ⟨w.heap.size, 0, none⟩) 2 2, .int .i64 0] 41)).alloc o3).alloc o4) := by
  refine ⟨by omega, by simp, by omega, by omega, ?_, ?_, ?_, ?_, ?_, ?_, ?_, World.ownsRow_nil _ _ _ _⟩
  all_goals go_simp

theorem below_of_kept {w w' : World} {o1 o2 o3 o4 : Obj} (H : KeptBut (w.heap.size + 1) (w.heap.size + 2) ((((w.alloc o1).alloc o2).alloc o3).alloc o4) w') : Below w.heap.size w w' := by
  have h1 : Below w.heap.size w ((((w.alloc o1).alloc o2).alloc o3).alloc o4) := ((((Below.refl _ _).alloc (Nat.le_refl _) _).alloc (by simp) _).alloc (by simp; omega) _).alloc (by simp; omega) _
  exact h1.trans ⟨H.os, H.tape, H.output, H.size, fun k hk => H.block k (by omega) (by omega)⟩

set_option maxHeartbeats 400000 in
theorem walk_short (n : Nat) (a1 a2 : Int) (hn : n ≤ 255) (hs : n % 40 < 12) (w : World) :
    Calls Yba.prog 4 #[.int .u8 n, .int .u32 a1, .int .u32 a2] w fun e w' => e = .returned (.bool true) ∧ Below w.heap.size w w' := by
  have hmk := make_L n hn
  go_enter Yba.func4, Yba.ntmps4
  go_wp2_with fail
  refine (sym_short _ _ _ _ _ hs).mono ?_
  rintro e w3 ⟨rfl, o5, o6, rfl⟩
  have hlt : (n : Int) % 40 < 12 := by omega
  go_wp2
  go_ret
  exact ⟨rfl, ((((((Below.refl _ _).alloc (Nat.le_refl _) _).alloc (by simp) _).alloc (by simp; omega) _).alloc (by simp; omega) _).alloc (by simp; omega) _).alloc (by simp; omega) _⟩

set_option maxHeartbeats 400000 in
theorem walk_mid (n : Nat) (a1 a2 : Int) (hn : n ≤ 255) (w1 : (Lit.int .u32 a1).wf = true) (w2 : (Lit.int .u32 a2).wf = true) (hs : 12 ≤ n % 40) (hs2 : n % 40 < 16) (w : World) :
    Calls Yba.prog 4 #[.int .u8 n, .int .u32 a1, .int .u32 a2] w fun e w' => e = .returned (.bool true) ∧ Below w.heap.size w w' := by
  have hmk := make_L n hn
  have b1 := bounds_u32 w1
  have hwr := wrap_u64_small b1.1 (by omega)
  go_enter Yba.func4, Yba.ntmps4
  go_wp2_with fail
  refine (sym_mid (w.heap.size + 1) (w.heap.size + 2) w.heap.size a1 a2 w1 w2 _ _ _ _ hs hs2 (Nat.le_refl _) (by omega) (ord_start _ _ _ _ _)).mono ?_
  rintro e w3 ⟨rfl, lb, lc, hord, hkb⟩
  have hlt : ¬ (n : Int) % 40 < 12 := by omega
  have hlt2 : (n : Int) % 40 < 16 := by omega
  have hc := hord.h0
  have hl : w3.cell? ⟨lb, 0, none⟩ = _ := hord.own.cells rfl 0 _ rfl
  rw [show ((n % 40 - 8 : Nat) : Int) = (n : Int) % 40 - 8 from by omega] at hl
  have hbel := below_of_kept hkb
  clear hord hkb
  go_wp2
  go_ret
  exact ⟨rfl, hbel⟩

set_option maxHeartbeats 400000 in
theorem walk_full (n : Nat) (a1 a2 : Int) (hn : n ≤ 255) (w1 : (Lit.int .u32 a1).wf = true) (w2 : (Lit.int .u32 a2).wf = true) (hs : 16 ≤ n % 40) (w : World) :
    Calls Yba.prog 4 #[.int .u8 n, .int .u32 a1, .int .u32 a2] w fun e w' => e = .returned (.bool true) ∧ Below w.heap.size w w' := by
  have hmk := make_L n hn
  have b1 := bounds_u32 w1
  have b2 := bounds_u32 w2
  have hwr := wrap_u64_small b1.1 (by omega)
  have hwr2 := wrap_u64_small b2.1 (by omega)
  go_enter Yba.func4, Yba.ntmps4
  go_wp2_with fail
  refine (sym_full (w.heap.size + 1) (w.heap.size + 2) w.heap.size a1 a2 w1 w2 _ _ _ _ hs (Nat.le_refl _) (by omega) (ord_start _ _ _ _ _)).mono ?_
  rintro e w3 ⟨rfl, lb, lc, hord, hkb⟩
  have hlt : ¬ (n : Int) % 40 < 12 := by omega
  have hlt2 : ¬ (n : Int) % 40 < 16 := by omega
  have hc := hord.h0
  have hl : w3.cell? ⟨lb, 0, none⟩ = _ := hord.own.cells rfl 0 _ rfl
  have hl2 : w3.cell? ⟨lb, 1, none⟩ = _ := hord.own.cells rfl 1 _ rfl
  rw [show ((n % 40 - 8 : Nat) : Int) = (n : Int) % 40 - 8 from by omega] at hl
  rw [show ((n % 40 - 12 : Nat) : Int) = (n : Int) % 40 - 12 from by omega] at hl2
  have hbel := below_of_kept hkb
  clear hord hkb
  go_wp2
  go_ret
  exact ⟨rfl, hbel⟩

theorem walk (a0 : Int) (a1 : Int) (a2 : Int) (w0 : (Lit.int .u8 a0).wf = true) (w1 : (Lit.int .u32 a1).wf = true) (w2 : (Lit.int .u32 a2).wf = true) (w : World) :
    Calls Yba.prog 4 #[.int .u8 a0, .int .u32 a1, .int .u32 a2] w fun e w' => e = .returned (.bool true) ∧ Below w.heap.size w w' := by
  have b0 := bounds_u8 w0
  obtain ⟨n, rfl⟩ := Int.eq_ofNat_of_zero_le b0.1
  by_cases h1 : n % 40 < 12
  · exact walk_short n a1 a2 (by omega) h1 w
  · by_cases h2 : n % 40 < 16
    · exact walk_mid n a1 a2 (by omega) w1 w2 (by omega) h2 w
    · exact walk_full n a1 a2 (by omega) w1 w2 (by omega) w

set_option maxRecDepth 100000 in
theorem lifted (os : Os) (started : os.Started) (H : Type) (enc : TypeId × Value → H) :
    ReturnsInHanded {} Yba.checked os 4 .any (Rows.lawS3135AOrderSpec.pre6 enc Yba.prog Yba.f4 Rows.lawS3135AOrderRow.domain false) (Rows.lawS3135AOrderSpec.post enc Yba.prog Yba.f4 false true false false) := by
  refine returnsInHanded_of_change (C := Yba.checked) own started (by kernel_rfl) Yba.func4
    (ChangeSpec.witness6 (enc := enc) (C := Yba.checked) false ⟨#[], #[.int .u8 0, .int .u32 0, .int .u32 0], []⟩ 8 (by kernel_rfl) (by kernel_rfl) (by kernel_rfl) (by kernel_rfl)) ?_
  intro W base args ds gs before hval0 hW hcnd _
  have hval : ∀ (j : Nat) t v, Yba.f4.params[j]? = some t → args[j]? = some v → Value.okWide Yba.prog W .any base t v := hval0
  have hW' := hW
  obtain ⟨p, q, hA0, hV, rfl, hfz, hnd⟩ := hW
  have hA : DataW.TrodAll enc Yba.prog W 0 (fun _ => true) true Yba.f4.params.toList args.toList ds p := hA0
  rw [Yba.params4] at hA hval
  obtain ⟨v0, vs0, d0, ds0, p0, q0, hargs, rfl, rfl, h0, r0⟩ := trodAll_cons hA
  obtain ⟨v1, vs1, d1, ds1, p1, q1, rfl, rfl, rfl, h1, r1⟩ := trodAll_cons r0
  obtain ⟨v2, vs2, d2, ds2, p2, q2, rfl, rfl, rfl, h2, r2⟩ := trodAll_cons r1
  obtain ⟨rfl, rfl, rfl⟩ := trodAll_nil r2
  obtain rfl : args = #[v0, v1, v2] := by cases args; simp_all
  obtain ⟨rfl, rfl⟩ := trodVars_none hV
  obtain ⟨a0, rfl, rfl, rfl, w0⟩ := open_int Yba.underlying5 (hval 0 5 v0 rfl rfl) h0
  obtain ⟨a1, rfl, rfl, rfl, w1⟩ := open_int Yba.underlying36 (hval 1 36 v1 rfl rfl) h1
  obtain ⟨a2, rfl, rfl, rfl, w2⟩ := open_int Yba.underlying36 (hval 2 36 v2 rfl rfl) h2
  clear hA0 hval0
  simp only [List.append_nil] at hW'
  refine (walk a0 a1 a2 w0 w1 w2 W).mono fun e W' ⟨he, bel⟩ => ?_
  subst he
  exact ⟨_, rfl, _, _, _, [], [], [], hW', trodAll_mk1 (shut_bool Yba.underlying4 _), (trodAll_cons_mk (shut_int Yba.underlying5 w0) (trodAll_cons_mk (shut_int Yba.underlying36 w1) (trodAll_cons_mk (shut_int Yba.underlying36 w2) trodAll_mk0))), rfl, bel.frame _, fun h => by cases h⟩

theorem over : Rows.lawS3135AOrderRow.holds Yba.pinned (OpenSpec.ofChange Rows.lawS3135AOrderSpec) :=
  OpenClaim.holds_of_wide 4 Yba.f4 rfl rfl rfl rfl rfl rfl rfl ⟨rfl, rfl, rfl, rfl, rfl⟩ rfl rfl rfl rfl rfl (by kernel_rfl) Yba.func4 (by kernel_rfl)
    (of_decide_eq_true (by kernel_rfl)) (by unfold Func.isWrapper; first | (rw [if_pos (by decide +kernel)]; kernel_rfl) | (rw [if_neg (by decide +kernel)]; exact ⟨rfl, rfl⟩))
    (fun os started H enc _ => lifted os started H enc)

/-- THE STATEMENT -/
theorem proved : Rows.LawS3135AOrderSaid :=
  over
end Go.Proofs.Ybulkblxc.lawS3135AOrder
