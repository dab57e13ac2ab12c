import Derived.Test.YbulkblxcFmtBCond3
import Derived.Test.YbulkblxcFmtBReg3
import Derived.Test.YbulkblxcFmtBLaw
import Derived.Deep.CutRange
import Derived.Deep.CutBlock
import Derived.Deep.LoopGhost
namespace Go.Proofs.YbulkblxcFmt
open Go.RowKit Go.Extern.Stop Go.Stop Go.Extern
set_option linter.unusedVariables false
attribute [-go_sem] Go.Builtin.append_

set_option maxRecDepth 100000 in
theorem neq38 (s : ByteArray) (a b : Int) (w : World) : (Go.binOp .neq 38 (.agg #[.string s, .int .u64 a, .int .u64 b]) (.agg #[.string s, .int .u64 a, .int .u64 b])).run Ybaf.prog w = .ok (.bool false) w := by
  go_simp

/-- What the law is told of its entries. -/
def EntIn (w : World) (a : Option Addr) (n : Nat) (c f z : Nat → Nat) : Prop :=
  ∀ i, i < n → c i ≤ 255 ∧ f i < 18446744073709551616 ∧ z i < 18446744073709551616 ∧
    ∃ g o, a = some ⟨g, o, none⟩ ∧ g < w.heap.size ∧ w.cell? ⟨g, o + i * 3, none⟩ = some (.int .u8 (c i : Int)) ∧ w.cell? ⟨g, o + i * 3 + 1, none⟩ = some (.int .u64 (f i : Int)) ∧ w.cell? ⟨g, o + i * 3 + 2, none⟩ = some (.int .u64 (z i : Int))

theorem row_start (w : World) (T : Nat) (hT : T ≤ 1000000) : (∀ q : IntKind, (Instr.makeSlice 26 (.int q (T : Int)) (.int q (T : Int))).run Ybaf.prog w = .ok (.slice (some ⟨w.heap.size, 0, none⟩) T T) (w.alloc (.cells (madeCells #[.int .u8 0] T) 5))) ∧
    RowB (w.alloc (.cells (madeCells #[.int .u8 0] T) 5)) w.heap.size T (fun _ => 0) := by
  refine ⟨fun q => make_bytes q T hT w, ?_⟩
  unfold RowB
  rw [heap_alloc_new]
  have : madeCells #[Value.int .u8 0] T = (byteCells (fun _ => 0) T).toArray := by
    apply Array.ext'
    rw [toList_madeCells_one]
    apply List.ext_getElem?
    intro j
    by_cases hj : j < T
    · simp [byteCells, hj]
    · simp [byteCells, hj]
  rw [this]

set_option maxHeartbeats 8000000 in
set_option maxRecDepth 100000 in
theorem bl_any (bf bm : Nat) (wide : Bool) (n cap pad : Nat) (a : Option Addr) (c f z : Nat → Nat) (w : World) (P : MoW w.heap.size bf w) (PM : MaW w.heap.size bm w) (hn : n ≤ 9223372036854775807) (hpad : pad ≤ 65535) (HE : EntIn w a n c f z) :
    Calls Ybaf.prog 3 #[.bool wide, .slice a n cap, .int .u16 (pad : Int)] w fun e w' => e = .returned (.bool true) ∧ Below w.heap.size w w' := by
  have h9 := P.h9
  go_enter Ybaf.func3, Ybaf.ntmps3
  go_upto_if 34 with fail
  refine wp_only (cond34 n _ decide_eq_true_iff w _ _ _ _ _ _ _ _ _ _ _ _ _ _ _ _ _ _ _ _ _ _ _ _ _ _ _ _ _ _ _ _ _ _ _ _ _ _ _ _ _ _ _ _ _ _ _ _ _ _ _ _ _ _ _ _ _ _ _ _ _ _ _ _ _ _ _ _ _ _ _ _ _ _ _ _ _ _ _ _ _ _ _ _ _ _ _ _ _ _ _ _ _ _ _ _ _ _ _ _ _ _ _ _ _ _ _ _ _ _ _ _ _ _ _ _ _ _ _ _ _ _ _ _ _ _ _ _ _ _ _ _ _ _ _ _ _ _ _ _ _ _ _ _ _ _ _ _ _ _ _ _ _ _ _ _ _ _ _ _ _ _ _ _ _ _ _ _ _ _ _ _ _ _ _ _ _ _ _ _ _ _ _ _ _ _ _ _ _ _ _ _ _ _ _ _ _ _ _ _ _ _ _ _ _ _ _ _ _ _ _ _ _ _ _ _ _ _ _ _ _ _ _ _ _ _ _ _ _ _ _ _ _) ?_
  rintro a0 w0 ⟨rfl, hw0⟩
  rw [hw0]
  clear hw0 w0
  have hnn : nnOf n ≤ 30 ∧ nnOf n ≤ n := by unfold nnOf; split <;> omega
  obtain ⟨nn, hnn0⟩ : ∃ nn, nnOf n = nn := ⟨_, rfl⟩
  rw [hnn0] at hnn ⊢
  clear hnn0
  go_upto_if 35 with fail
  refine wp_only (cond35 wide w _ _ _ _ _ _ _ _ _ _ _ _ _ _ _ _ _ _ _ _ _ _ _ _ _ _ _ _ _ _ _ _ _ _ _ _ _ _ _ _ _ _ _ _ _ _ _ _ _ _ _ _ _ _ _ _ _ _ _ _ _ _ _ _ _ _ _ _ _ _ _ _ _ _ _ _ _ _ _ _ _ _ _ _ _ _ _ _ _ _ _ _ _ _ _ _ _ _ _ _ _ _ _ _ _ _ _ _ _ _ _ _ _ _ _ _ _ _ _ _ _ _ _ _ _ _ _ _ _ _ _ _ _ _ _ _ _ _ _ _ _ _ _ _ _ _ _ _ _ _ _ _ _ _ _ _ _ _ _ _ _ _ _ _ _ _ _ _ _ _ _ _ _ _ _ _ _ _ _ _ _ _ _ _ _ _ _ _ _ _ _ _ _ _ _ _ _ _ _ _ _ _ _ _ _ _ _ _ _ _ _ _ _ _ _ _ _ _ _ _ _ _ _ _ _ _ _ _ _ _ _ _) ?_
  rintro a0 w0 ⟨rfl, hw0⟩
  rw [hw0]
  clear hw0 w0
  have hes : 20 ≤ esOf wide ∧ esOf wide ≤ 32 := by cases wide <;> decide
  have hmg : magOf wide < 4294967296 := by cases wide <;> decide
  obtain ⟨M, hM⟩ : ∃ M, nn * esOf wide = M := ⟨_, rfl⟩
  have hmul : (nn : Int) * (esOf wide : Int) = (M : Int) := by rw [← Int.natCast_mul, hM]
  have hM1 : M ≤ 960 := by
    rw [← hM]
    exact Nat.mul_le_mul hnn.1 hes.2
  obtain ⟨pd, hpd⟩ : ∃ pd, pad % 2048 = pd := ⟨_, rfl⟩
  have hpd1 : pd ≤ 2047 := by omega
  have hpdi : (pad : Int) % 2048 = (pd : Int) := by omega
  obtain ⟨T, hT⟩ : ∃ T, 8 + M + pd = T := ⟨_, rfl⟩
  have hTi : 8 + (M : Int) + (pd : Int) = (T : Int) := by omega
  obtain ⟨hmk0, hrow0⟩ := row_start w T (by omega)
  have hmk := hmk0 .u64
  have HM : Hid (nn * esOf wide = M) := hM
  have HT : Hid (8 + M + pd = T) := hT
  have HPD : Hid (pad % 2048 = pd) := hpd
  have hT1 : T ≤ 3100 := by omega
  have hT8 : 8 + M ≤ T := by omega
  clear hM hT hmk0 hpd
  go_upto_region 12 with fail
  refine wp_only (reg3_12 w.heap.size T (magOf wide) (fun _ => 0) _ hrow0 hmg (by omega) _ _ _ _ _ _ _ _ _ _ _ _ _ _ _ _ _ _ _ _ _ _ _ _ _ _ _ _ _ _ _ _ _ _ _ _ _ _ _ _ _ _ _ _ _ _ _ _ _ _ _ _ _ _ _ _ _ _ _ _ _ _ _ _ _ _ _ _ _ _ _ _ _ _ _ _ _ _ _ _ _ _ _ _ _ _ _ _ _ _ _ _ _ _ _ _ _ _ _ _ _ _ _ _ _ _ _ _ _ _ _ _ _ _ _ _ _ _ _ _ _ _ _ _ _ _ _ _ _ _ _ _ _ _ _ _ _ _ _ _ _ _ _ _ _ _ _ _ _ _ _ _ _ _ _ _ _ _ _ _ _ _ _ _ _ _ _ _ _ _ _ _ _ _ _ _ _ _ _ _ _ _ _ _ _ _ _ _ _ _ _ _ _ _ _ _ _ _ _ _ _ _ _ _ _ _ _ _ _ _ _ _ _ _ _ _ _ _ _ _ _ _ _ _ _ _ _ _ _ _ _ _ _) ?_
  rintro a1 w1 ⟨x48, x49, x50, x51, x52, rfl, hrow1, hk1⟩
  go_upto_region 13 with fail
  refine wp_only (reg3_13 w.heap.size T nn _ w1 hrow1 (by omega) (by omega) _ _ _ _ _ _ _ _ _ _ _ _ _ _ _ _ _ _ _ _ _ _ _ _ _ _ _ _ _ _ _ _ _ _ _ _ _ _ _ _ _ _ _ _ _ _ _ _ _ _ _ _ _ _ _ _ _ _ _ _ _ _ _ _ _ _ _ _ _ _ _ _ _ _ _ _ _ _ _ _ _ _ _ _ _ _ _ _ _ _ _ _ _ _ _ _ _ _ _ _ _ _ _ _ _ _ _ _ _ _ _ _ _ _ _ _ _ _ _ _ _ _ _ _ _ _ _ _ _ _ _ _ _ _ _ _ _ _ _ _ _ _ _ _ _ _ _ _ _ _ _ _ _ _ _ _ _ _ _ _ _ _ _ _ _ _ _ _ _ _ _ _ _ _ _ _ _ _ _ _ _ _ _ _ _ _ _ _ _ _ _ _ _ _ _ _ _ _ _ _ _ _ _ _ _ _ _ _ _ _ _ _ _ _ _ _ _ _ _ _ _ _ _ _ _ _ _ _ _ _ _ _ _) ?_
  rintro a2 w2 ⟨x53, x54, x55, x56, x57, x58, rfl, hrow2, hk2⟩
  have hfile0 : FileI wide nn (fun i => enOf wide (8 + M) (c i) (f i) (z i)) 0 (put4 (put4 (fun _ => 0) 0 (magOf wide : Int)) 4 (nn : Int)) := by
    refine ⟨put4_bd (by omega) (by omega) (put4_bd (by omega) (by omega) (fun j => by omega)), ?_, be4_put4 _ _ _ (by omega) (by omega), fun i' hi' => by omega⟩
    rw [be4_same (fun j _ _ => put4_far _ _ _ _ (by omega))]
    exact be4_put4 _ _ _ (by omega) (by omega)
  have hb2 : Below w.heap.size w w2 := (((Below.refl _ _).alloc (Nat.le_refl _) _).trans (hk1.below (Nat.le_refl _) (by simp))).trans (hk2.below (Nat.le_refl _) (by have := hk1.size; simp at this; omega))
  have hBlt := hrow2.lt
  generalize hbs0 : put4 (put4 (fun _ => 0) 0 (magOf wide : Int)) 4 (nn : Int) = bs0 at hrow2 hfile0
  clear hbs0 hrow1 hk1 hk2 hrow0 hmk
  have hstart : LwI w w.heap.size T w2.heap.size (w2.heap.size + 1) (w2.heap.size + 1 + 1) 0 [] bs0 (((w2.alloc (.cells cpuCells 30)).alloc (.cells namCells 31)).alloc (.cells #[] 38)) := by
    have hb3 : Below w2.heap.size w2 (((w2.alloc (.cells cpuCells 30)).alloc (.cells namCells 31)).alloc (.cells #[] 38)) := (((Below.refl _ _).alloc (Nat.le_refl _) _).alloc (by simp) _).alloc (by simp; omega) _
    have hw := OwnAt.new ((w2.alloc (.cells cpuCells 30)).alloc (.cells namCells 31)) 38 3
    rw [show ((w2.alloc (.cells cpuCells 30)).alloc (.cells namCells 31)).heap.size = w2.heap.size + 1 + 1 from by simp] at hw
    have hc : (w2.alloc (.cells cpuCells 30)).heap[w2.heap.size]? = some (.cells cpuCells 30 (0, 0)) := heap_alloc_new w2 _
    have hn' : ((w2.alloc (.cells cpuCells 30)).alloc (.cells namCells 31)).heap[w2.heap.size + 1]? = some (.cells namCells 31 (0, 0)) := by
      have := heap_alloc_new (w2.alloc (.cells cpuCells 30)) (.cells namCells 31)
      rw [show (w2.alloc (.cells cpuCells 30)).heap.size = w2.heap.size + 1 from by simp] at this
      exact this
    exact ⟨hb2.trans (hb3.mono hb2.size), hrow2.below hb3 hrow2.lt,
      (Below.block (B := w2.heap.size + 1) (((Below.refl _ _).alloc (by simp) _).alloc (by simp) _) w2.heap.size (by omega)).trans hc,
      (Below.block (B := w2.heap.size + 2) ((Below.refl _ _).alloc (by simp) _) (w2.heap.size + 1) (by omega)).trans hn', hw, by omega⟩
  obtain ⟨ec, hec⟩ : ∃ ec : Nat → En, (fun i => enOf wide (8 + M) (c i) (f i) (z i)) = ec := ⟨_, rfl⟩
  rw [hec] at hfile0
  have HEC : Hid ((fun i => enOf wide (8 + M) (c i) (f i) (z i)) = ec) := hec
  clear hec
  obtain ⟨ents, hents⟩ : ∃ ents, entsOf wide (8 + M) c f z nn = ents := ⟨_, rfl⟩
  have hel : ents.length = nn := by rw [← hents]; exact entsOf_length _ _ _ _ _ _
  have hea : ∀ i (hi : i < ents.length), ents[i] = ec i := by
    intro i hi
    subst hents
    rw [entsOf_at, ← HEC.out]
  have HENTS : Hid (entsOf wide (8 + M) c f z nn = ents) := hents
  have HEL : Hid (ents.length = nn) := hel
  have HEA : Hid (∀ i (hi : i < ents.length), ents[i] = ec i) := hea
  clear hents hel hea hrow2 hb2
  go_wp2
  generalize hw3 : (((w2.alloc (.cells cpuCells 30)).alloc (.cells namCells 31)).alloc (.cells #[] 38)) = w3 at hstart ⊢
  obtain ⟨B, hB⟩ : ∃ B, B = w.heap.size := ⟨_, rfl⟩
  obtain ⟨Cb, hCb⟩ : ∃ Cb, Cb = w2.heap.size := ⟨_, rfl⟩
  obtain ⟨Nb, hNb⟩ : ∃ Nb, Nb = w2.heap.size + 1 := ⟨_, rfl⟩
  obtain ⟨g0, hg0⟩ : ∃ g0, g0 = w2.heap.size + 1 + 1 := ⟨_, rfl⟩
  rw [← hg0, ← hNb, ← hCb] at hstart ⊢
  have hstart' : LwI w B T Cb Nb g0 0 [] bs0 w3 := by rw [hB]; exact hstart
  rw [← hB]
  have HBB : Hid (B = w.heap.size) := hB
  clear hstart hw3 hCb hNb hg0 hBlt hB
  clear w2
  go_loopw [15, 16, 17] (fun v15 v16 v17 wr => ∃ (i gw cw : Nat) (bs : Nat → Int), i ≤ nn ∧ v17 = .int .i64 (i : Int) ∧ v16 = .int .i64 ((bfold T (8 + M) (ents.take i)).2 : Int) ∧ v15 = .slice (some ⟨gw, 0, none⟩) (bfold T (8 + M) (ents.take i)).1.length cw ∧ FileI wide nn ec i bs ∧ LwI w B T Cb Nb gw cw (bfold T (8 + M) (ents.take i)).1 bs wr) (fun _ _ i _ => nn - (intOf i).toNat)
  case atStart => exact ⟨0, g0, 0, bs0, Nat.zero_le _, rfl, rfl, rfl, hfile0, hstart'⟩
  case round =>
    clear hstart' hfile0
    obtain ⟨i, gw, cw, bs, hi, rfl, rfl, rfl, FI, HI⟩ := hrel
    by_cases hlt : i < nn
    · have hlt' : (i : Int) < (nn : Int) := by omega
      have hil : i < ents.length := by rw [HEL.out]; exact hlt
      have hstep := bfold_step T (8 + M) ents i hil
      rw [HEA.out i hil] at hstep
      obtain ⟨hc1, hf1, hz1, g, o, ha, hg, e0, e1, e2⟩ := HE i (by omega)
      subst ha
      have hbl := HI.bel
      have d0 := (hbl.cell (p := ⟨g, o + i * 3, none⟩) hg).trans e0
      have d1 := (hbl.cell (p := ⟨g, o + i * 3 + 1, none⟩) hg).trans e1
      have d2 := (hbl.cell (p := ⟨g, o + i * 3 + 2, none⟩) hg).trans e2
      have hi_n : (i : Int) < (n : Int) := by omega
      obtain ⟨q, hq⟩ : ∃ q, i * esOf wide = q := ⟨_, rfl⟩
      have hqi : (i : Int) * (esOf wide : Int) = (q : Int) := by rw [← Int.natCast_mul, hq]
      have hqM : q + esOf wide ≤ M := by
        rw [← hq, ← HM.out]
        have := Nat.mul_le_mul_right (esOf wide) (show i + 1 ≤ nn from hlt)
        rw [Nat.add_mul, Nat.one_mul] at this
        exact this
      obtain ⟨ci, hci⟩ : ∃ ci, c i = ci := ⟨_, rfl⟩
      obtain ⟨fi, hfi⟩ : ∃ fi, f i = fi := ⟨_, rfl⟩
      obtain ⟨zi, hzi⟩ : ∃ zi, z i = zi := ⟨_, rfl⟩
      rw [hci] at hc1 d0
      rw [hfi] at hf1 d1
      rw [hzi] at hz1 d2
      have hecI : ec i = enOf wide (8 + M) ci fi zi := by
        rw [← HEC.out, ← hci, ← hfi, ← hzi]
      obtain ⟨kk, hkk⟩ : ∃ kk, ci % 7 = kk := ⟨_, rfl⟩
      have hkk7 : kk < 7 := by omega
      have hki : (ci : Int) % 7 = (kk : Int) := by omega
      obtain ⟨ro, hro⟩ : ∃ ro, (fi + (8 + M)) % 18446744073709551616 = ro := ⟨_, rfl⟩
      have hroi : IntKind.u64.wrap ((fi : Int) + (8 + (M : Int))) = (ro : Int) := by rw [IntKind.wrap_u64]; omega
      obtain ⟨p, hp⟩ : ∃ p, 8 + q = p := ⟨_, rfl⟩
      have hpi : 8 + (q : Int) = (p : Int) := by omega
      have HP : Hid (8 + i * esOf wide = p) := by show _ = _; rw [hq]; exact hp
      have hpT : p + esOf wide ≤ T := by omega
      have HQ : Hid (i * esOf wide = q) := hq
      have HKK : Hid (ci % 7 = kk) := hkk
      have HRO : Hid ((fi + (8 + M)) % 18446744073709551616 = ro) := hro
      have HECI : Hid (ec i = enOf wide (8 + M) ci fi zi) := hecI
      have HSTEP : Hid (bfold T (8 + M) (ents.take (i + 1)) = bstep T (8 + M) (bfold T (8 + M) (ents.take i)) (ec i)) := hstep
      have hro1 : ro < 18446744073709551616 := by omega
      have hlen : (bfold T (8 + M) (ents.take i)).1.length ≤ i ∧ (bfold T (8 + M) (ents.take i)).2 ≤ 2 * i ∧ ∀ m ∈ (bfold T (8 + M) (ents.take i)).1, MbOk T m := by
        have := bfold_ok T (8 + M) ents (by
          intro e he
          obtain ⟨j, hj, rfl⟩ := List.getElem_of_mem he
          rw [HEA.out j hj, ← HEC.out]
          exact Nat.mod_lt _ (by omega)) i (by omega)
        exact ⟨this.2.1, this.2.2, this.1⟩
      obtain ⟨st, hst⟩ : ∃ st, bfold T (8 + M) (ents.take i) = st := ⟨_, rfl⟩
      rw [hst] at hlen HSTEP HI ⊢
      obtain ⟨cx, hcx⟩ : ∃ cx : Nat, cpuK kk = (cx : Int) := ⟨(cpuK kk).toNat, (Int.toNat_of_nonneg (cpuK_bd kk).1).symm⟩
      have hcx1 : cx < 4294967296 := by have := (cpuK_bd kk).2; omega
      clear hq hkk hro hecI hstep hci hfi hzi e0 e1 e2 hp
      go_upto_region 26 with fail
      have HI1 := HI.grow ((Below.refl _ _).alloc (Nat.le_refl _) (.cells #[.int .u8 (ci : Int), .int .u64 (fi : Int), .int .u64 (zi : Int)] 34))
      have hcc := HI1.cpu kk hkk7
      rw [hcx] at hcc
      have hord := HI1.o
      refine wp_only (reg3_26 B T Cb kk p cx bs _ HI1.row hcx1 (by omega) (by omega) hcc (by omega) (by omega) _ _ _ _ _ _ _ _ _ _ _ _ _ _ _ _ _ _ _ _ _ _ _ _ _ _ _ _ _ _ _ _ _ _ _ _ _ _ _ _ _ _ _ _ _ _ _ _ _ _ _ _ _ _ _ _ _ _ _ _ _ _ _ _ _ _ _ _ _ _ _ _ _ _ _ _ _ _ _ _ _ _ _ _ _ _ _ _ _ _ _ _ _ _ _ _ _ _ _ _ _ _ _ _ _ _ _ _ _ _ _ _ _ _ _ _ _ _ _ _ _ _ _ _ _ _ _ _ _ _ _ _ _ _ _ _ _ _ _ _ _ _ _ _ _ _ _ _ _ _ _ _ _ _ _ _ _ _ _ _ _ _ _ _ _ _ _ _ _ _ _ _ _ _ _ _ _ _ _ _ _ _ _ _ _ _ _ _ _ _ _ _ _ _ _ _ _ _ _ _ _ _ _ _ _ _ _ _ _ _ _ _ _ _ _ _ _ _ _ _ _ _ _ _ _ _ _ _ _ _ _) ?_
      rintro a1 w4 ⟨x86, x87, x88, x89, x90, x91, x92, x93, rfl, hrow4, hk4⟩
      have HI4 := HI1.put hrow4 hk4
      have HCX : Hid (cpuK kk = (cx : Int)) := hcx
      clear HI HI1 hcc hrow4 hk4 d0 d1 d2 hcx
      go_upto_if 94 with fail
      refine wp_only (cond94 wide B T p ro zi _ w4 HI4.row hro1 hz1 hpT (by omega) _ _ _ _ _ _ _ _ _ _ _ _ _ _ _ _ _ _ _ _ _ _ _ _ _ _ _ _ _ _ _ _ _ _ _ _ _ _ _ _ _ _ _ _ _ _ _ _ _ _ _ _ _ _ _ _ _ _ _ _ _ _ _ _ _ _ _ _ _ _ _ _ _ _ _ _ _ _ _ _ _ _ _ _ _ _ _ _ _ _ _ _ _ _ _ _ _ _ _ _ _ _ _ _ _ _ _ _ _ _ _ _ _ _ _ _ _ _ _ _ _ _ _ _ _ _ _ _ _ _ _ _ _ _ _ _ _ _ _ _ _ _ _ _ _ _ _ _ _ _ _ _ _ _ _ _ _ _ _ _ _ _ _ _ _ _ _ _ _ _ _ _ _ _ _ _ _ _ _ _ _ _ _ _ _ _ _ _ _ _ _ _ _ _ _ _ _ _ _ _ _ _ _ _ _ _ _ _ _ _ _ _ _ _ _ _ _ _ _ _ _ _ _ _ _ _ _ _ _ _) ?_
      rintro a2 w6 ⟨x95, x96, x97, x98, x99, x100, x101, x102, x103, x104, x105, x106, x107, x108, x109, x110, x111, x112, x113, x114, x115, x116, x117, x118, x119, x120, x121, x122, x123, x124, x125, x126, x127, x128, x129, x130, rfl, hrow6, hk6⟩
      have HI6 := HI4.put hrow6 hk6
      have hoE : offW wide ro = (ec i).off := by rw [HECI.out, ← HRO.out]; cases wide <;> rfl
      have hsE : sizW wide zi = (ec i).size := by rw [HECI.out]; cases wide <;> rfl
      have hek7 : (ec i).k = kk := by rw [HECI.out, ← HKK.out]; rfl
      have hbige := enOf_big wide (8 + M) ci fi zi hz1
      rw [← HECI.out] at hbige
      have FI' : FileI wide nn ec (i + 1) (bsW wide (put4 bs p (cx : Int)) p ro zi) := by
        cases wide
        · have h1 := FI.narrow (by rw [← hoE]; exact Nat.mod_lt _ (by omega)) (by rw [← hsE]; exact Nat.mod_lt _ (by omega))
          rw [hek7, HCX.out, ← hoE, ← hsE, show 8 + i * 20 = p from HP.out] at h1
          exact h1
        · have h1 := FI.wide hbige.1 hbige.2.1
          rw [hek7, HCX.out, ← hoE, ← hsE, show 8 + i * 32 = p from HP.out] at h1
          exact h1
      rw [hoE, hsE]
      generalize hbb : bsW wide (put4 bs p (cx : Int)) p ro zi = bs' at FI' HI6
      obtain ⟨e, hee⟩ : ∃ e, ec i = e := ⟨_, rfl⟩
      rw [hee] at HSTEP hek7 hbige ⊢
      clear HI4 FI HCX hcx1 hroi hki hqi hpi hmul hpdi hee hbb hoE hsE hrow6 hk6
      have hnp : st.2 ≤ 60 := by omega
      by_cases hoff : T < e.off
      · have hoff' : (T : Int) < (e.off : Int) := by omega
        have HN1 : Hid (bfold T (8 + M) (ents.take (i + 1)) = (st.1, st.2 + 1)) := by
          show _ = _
          rw [HSTEP.out, bstep, if_pos hoff]
        go_wp2
        go_roundw
        case rel => exact ⟨i + 1, gw, cw, bs', by omega, by go_num, by rw [HN1.out]; go_num, by rw [HN1.out], FI', by rw [HN1.out]; exact HI6⟩
        case measure => simp [intOf]; omega
      · have hoff' : ¬ (T : Int) < (e.off : Int) := by omega
        have hle : e.off ≤ T := by omega
        have hHB : Hid (bstep T (8 + M) st e = if meets e.off (heldOf T e) 0 (8 + M) then (st.1, st.2 + (if heldOf T e < e.size then 1 else 0) + 1)
            else if clash st.1 e.off (heldOf T e) then (st.1, st.2 + (if heldOf T e < e.size then 1 else 0) + 1)
            else (st.1 ++ [⟨e.k, e.off, heldOf T e⟩], st.2 + (if heldOf T e < e.size then 1 else 0))) := by
          show _ = _
          rw [bstep, if_neg hoff]
        have hhl := held_le hle
        have hhE : heldOf T e = if e.size ≤ T - e.off then e.size else T - e.off := rfl
        obtain ⟨hd, hhd⟩ : ∃ hd, heldOf T e = hd := ⟨_, rfl⟩
        rw [hhd] at hHB hhl hhE
        have HHE : Hid (hd = if e.size ≤ T - e.off then e.size else T - e.off) := hhE
        clear hhd hhE
        go_upto_if 141 with fail
        refine wp_only (cond141 T e.off e.size hd _ decide_eq_true_iff hle (by omega) HHE.out _ _ _ _ _ _ _ _ _ _ _ _ _ _ _ _ _ _ _ _ _ _ _ _ _ _ _ _ _ _ _ _ _ _ _ _ _ _ _ _ _ _ _ _ _ _ _ _ _ _ _ _ _ _ _ _ _ _ _ _ _ _ _ _ _ _ _ _ _ _ _ _ _ _ _ _ _ _ _ _ _ _ _ _ _ _ _ _ _ _ _ _ _ _ _ _ _ _ _ _ _ _ _ _ _ _ _ _ _ _ _ _ _ _ _ _ _ _ _ _ _ _ _ _ _ _ _ _ _ _ _ _ _ _ _ _ _ _ _ _ _ _ _ _ _ _ _ _ _ _ _ _ _ _ _ _ _ _ _ _ _ _ _ _ _ _ _ _ _ _ _ _ _ _ _ _ _ _ _ _ _ _ _ _ _ _ _ _ _ _ _ _ _ _ _ _ _ _ _ _ _ _ _ _ _ _ _ _ _ _ _ _ _ _ _ _ _ _ _ _ _ _ _ _ _ _ _ _ _ _ _ _) ?_
        rintro a3 w7 ⟨x142, x143, x144, rfl, hw7⟩
        rw [hw7]
        clear hw7 w7
        obtain ⟨np, hnp2⟩ : ∃ np, st.2 + (if hd < e.size then 1 else 0) = np := ⟨_, rfl⟩
        rw [hnp2] at hHB
        have hnp3 : np ≤ 61 := by rw [← hnp2]; split <;> omega
        have HNP : Hid (np = st.2 + (if hd < e.size then 1 else 0)) := hnp2.symm
        clear hnp2
        go_upto_if 147 with fail
        refine wp_only (cond147 hd e.size st.2 np _ (by first | exact decide_eq_true_iff | (rw [decide_eq_true_iff]; omega)) (by omega) HNP.out _ _ _ _ _ _ _ _ _ _ _ _ _ _ _ _ _ _ _ _ _ _ _ _ _ _ _ _ _ _ _ _ _ _ _ _ _ _ _ _ _ _ _ _ _ _ _ _ _ _ _ _ _ _ _ _ _ _ _ _ _ _ _ _ _ _ _ _ _ _ _ _ _ _ _ _ _ _ _ _ _ _ _ _ _ _ _ _ _ _ _ _ _ _ _ _ _ _ _ _ _ _ _ _ _ _ _ _ _ _ _ _ _ _ _ _ _ _ _ _ _ _ _ _ _ _ _ _ _ _ _ _ _ _ _ _ _ _ _ _ _ _ _ _ _ _ _ _ _ _ _ _ _ _ _ _ _ _ _ _ _ _ _ _ _ _ _ _ _ _ _ _ _ _ _ _ _ _ _ _ _ _ _ _ _ _ _ _ _ _ _ _ _ _ _ _ _ _ _ _ _ _ _ _ _ _ _ _ _ _ _ _ _ _ _ _ _ _ _ _ _ _ _ _ _ _ _ _ _ _ _ _ _ _) ?_
        rintro a4 w7 ⟨x148, x149, rfl, hw7⟩
        rw [hw7]
        clear hw7 w7
        have hme0 := meet_any e.off hd 0 (8 + M) w6 (by omega) (by omega)
        rw [show ((8 + M : Nat) : Int) = 8 + (M : Int) from by omega] at hme0
        cases hme : meets e.off hd 0 (8 + M)
        · have hHB2 : Hid (bstep T (8 + M) st e = if clash st.1 e.off hd then (st.1, np + 1) else (st.1 ++ [⟨e.k, e.off, hd⟩], np)) := by
            show _ = _
            rw [hHB.out, hme]
            rfl
          rw [hme] at hme0
          clear hme hHB
          go_upto_block 2 with (go_at_call 10; refine hme0.mono ?_; rintro e' wq ⟨rfl, rfl⟩)
          clear hme0
          obtain ⟨cv, hcv⟩ : ∃ cv, clash st.1 e.off hd = cv := ⟨_, rfl⟩
          have HCV : Hid (clash st.1 e.off hd = cv) := hcv
          clear hcv
          refine wp_only (block2 gw cw e.off hd T st.1 wq HI6.want hlen.2.2 (by omega) hhl (by omega) cv HCV _ _ _ _ _ _ _ _ _ _ _ _ _ _ _ _ _ _ _ _ _ _ _ _ _ _ _ _ _ _ _ _ _ _ _ _ _ _ _ _ _ _ _ _ _ _ _ _ _ _ _ _ _ _ _ _ _ _ _ _ _ _ _ _ _ _ _ _ _ _ _ _ _ _ _ _ _ _ _ _ _ _ _ _ _ _ _ _ _ _ _ _ _ _ _ _ _ _ _ _ _ _ _ _ _ _ _ _ _ _ _ _ _ _ _ _ _ _ _ _ _ _ _ _ _ _ _ _ _ _ _ _ _ _ _ _ _ _ _ _ _ _ _ _ _ _ _ _ _ _ _ _ _ _ _ _ _ _ _ _ _ _ _ _ _ _ _ _ _ _ _ _ _ _ _ _ _ _ _ _ _ _ _ _ _ _ _ _ _ _ _ _ _ _ _ _ _ _ _ _ _ _ _ _ _ _ _ _ _ _ _ _ _ _ _ _ _ _ _ _ _ _ _ _ _ _ _ _ _) ?_
          rintro a5 w7 ⟨x26, x158, x159, x160, x161, x162, x163, x164, x165, x166, x167, x168, x169, rfl, hb7⟩
          have HI7 := HI6.grow hb7
          clear HI6 hb7
          cases cv
          · have HN1 : Hid (bfold T (8 + M) (ents.take (i + 1)) = (st.1 ++ [⟨e.k, e.off, hd⟩], np)) := by
              show _ = _
              rw [HSTEP.out, hHB2.out, HCV.out]
              rfl
            clear hHB2
            have hnm := HI7.nam kk hkk7
            have hkk' : (kk : Int) < 7 := by omega
            obtain ⟨i38, hi0, hi1, hi2, hi3⟩ := info_parts Ybaf.info38
            have hbX : Below w7.heap.size w7 (w7.alloc (.cells #[.string (nameK kk), .int .u64 (e.off : Int), .int .u64 (hd : Int)] 38)) := (Below.refl _ _).alloc (Nat.le_refl _) _
            have HI8 := HI7.grow hbX
            obtain ⟨g', cw', wA, hapA, hoA, hgrA, hgA⟩ := own_append 32 32 38 3 32 i38 (.agg #[.string ⟨#[]⟩, .int .u64 0, .int .u64 0]) Ybaf.underlying32 hi0 hi1 hi2 hi3 rfl (by decide) (w7.alloc (.cells #[.string (nameK kk), .int .u64 (e.off : Int), .int .u64 (hd : Int)] 38)) gw st.1.length cw (msCells st.1) HI8.want w7.heap.size [.string (nameK kk), .int .u64 (e.off : Int), .int .u64 (hd : Int)] rfl (fun j u hu => by
              rw [cell_of_row _ _ _ _ _ _ (heap_alloc_new w7 _)]
              simpa using hu) (by intro u hu; simp at hu; rcases hu with rfl | rfl | rfl <;> rfl) (by omega) (by decide)
            have HIA := HI8.app (m := ⟨e.k, e.off, hd⟩) (by rw [← hek7] at hoA; exact hoA) hgrA hgA
            have HHA : Hid (LwI w B T Cb Nb g' cw' (st.1 ++ [⟨e.k, e.off, hd⟩]) bs' wA) := HIA
            clear HI7 HI8 hoA hgrA hgA hbX hi0 hi1 hi2 hi3 HIA
            go_wp2
            go_roundw
            case rel => exact ⟨i + 1, g', cw', bs', by omega, by go_num, by rw [HN1.out], by rw [HN1.out]; simp, FI', by rw [HN1.out]; exact HHA.out⟩
            case measure => simp [intOf]; omega
          · have HN1 : Hid (bfold T (8 + M) (ents.take (i + 1)) = (st.1, np + 1)) := by
              show _ = _
              rw [HSTEP.out, hHB2.out, HCV.out]
              rfl
            clear hHB2
            go_wp2
            go_roundw
            case rel => exact ⟨i + 1, gw, cw, bs', by omega, by go_num, by rw [HN1.out]; go_num, by rw [HN1.out], FI', by rw [HN1.out]; exact HI7⟩
            case measure => simp [intOf]; omega
        · have HN1 : Hid (bfold T (8 + M) (ents.take (i + 1)) = (st.1, np + 1)) := by
            show _ = _
            rw [HSTEP.out, hHB.out, hme]
            rfl
          rw [hme] at hme0
          clear hme hHB
          go_wp2_with (go_at_call 10; refine hme0.mono ?_; rintro e' wq ⟨rfl, rfl⟩)
          go_roundw
          case rel => exact ⟨i + 1, gw, cw, bs', by omega, by go_num, by rw [HN1.out]; go_num, by rw [HN1.out], FI', by rw [HN1.out]; exact HI6⟩
          case measure => simp [intOf]; omega
    · have hlt' : ¬ (i : Int) < (nn : Int) := by omega
      obtain rfl : i = nn := by omega
      have htk : ents.take i = ents := by rw [← HEL.out]; exact List.take_length
      rw [htk] at HI ⊢
      have hstok := bfold_ok T (8 + M) ents (by
          intro e he
          obtain ⟨j, hj, rfl⟩ := List.getElem_of_mem he
          rw [HEA.out j hj, ← HEC.out]
          exact Nat.mod_lt _ (by omega)) i (by rw [HEL.out]; exact Nat.le_refl _)
      rw [htk] at hstok
      have hFO : FileOf (esOf wide) (soOf wide) (wdOf wide) (fldW wide) T bs ents := by
        rw [← HENTS.out]
        refine file_of hnn.1 (by rw [HM.out]; omega) (by omega) (fun j hj => (HE j (by omega)).2.2.1) ?_
        rw [HEC.out]
        exact FI
      have hby := HI.row.bytes FI.bd
      have hBlt := HI.row.lt
      have hTi64 : IntKind.i64.wrap (T : Int) = (T : Int) := by rw [IntKind.wrap_i64]; omega
      have heq32 := fun w a n c => Go.Lib.run_eql_slice_nil (P := Ybaf.prog) w 32 38 a n c 0 0 Ybaf.underlying32
      have heq44 := fun w a n c => Go.Lib.run_eql_slice_nil (P := Ybaf.prog) w 44 9 a n c 0 0 Ybaf.underlying44
      have HOO := HI.o
      obtain ⟨ms, hms⟩ : ∃ ms, (bfold T (8 + M) ents).1 = ms := ⟨_, rfl⟩
      obtain ⟨np, hnp⟩ : ∃ np, (bfold T (8 + M) ents).2 = np := ⟨_, rfl⟩
      rw [hms] at HI hstok ⊢
      rw [hnp] at hstok ⊢
      have HMS : Hid ((bfold T (8 + M) ents).1 = ms ∧ (bfold T (8 + M) ents).2 = np) := ⟨hms, hnp⟩
      clear hms hnp FI HE htk hTi
      go_wp2_with fail
      refine (new_any 41 ⟨wr.heap.size, 0, none⟩ (T : Int) _ (by omega) (by omega)).mono ?_
      rintro e w4 ⟨rfl, hw4⟩
      obtain ⟨hrd, hb4⟩ := rb_law (fl := false) hby hBlt (by omega) hw4
      rw [show (wr.alloc (.cells #[.slice (some ⟨B, 0, none⟩) T T, .bool false] 43)).heap.size = wr.heap.size + 1 from by simp]
      have HI4 := HI.grow hb4
      have hsl : Calls Ybaf.prog 12 #[.pointer (some ⟨wr.heap.size + 1, 0, none⟩)] w4 fun e w' => ListedB T (8 + M) ents w4 e w' := by
        have hP4 := P.below HI4.bel
        have hPM4 := PM.below HI4.bel
        by_cases h0 : ents.length = 0
        · have he0 : ents = [] := List.eq_nil_of_length_eq_zero h0
          subst he0
          exact sl_yes0 w.heap.size bf _ _ _ _ _ _ _ _ _ _ bs w4 hP4 hrd hFO (8 + M) hes.2
        · exact sl_yes w.heap.size bf bm _ _ _ _ _ _ _ _ _ _ bs ents w4 hP4 hPM4 hrd (form_wide wide) hFO (by omega) (8 + M) (by show _ = _; rw [HEL.out, HM.out])
      clear hw4 hby hrd hFO
      go_wp2_with fail
      refine hsl.mono ?_
      rintro e w5 ⟨gm, cm, gp, cp, rfl, hb5, hom⟩
      rw [HMS.out.1] at hom
      rw [HMS.out.1, HMS.out.2]
      have HI5 := HI4.grow hb5
      have hwant := HI5.want
      have hbel5 := HI5.bel
      have hgmlt := hom.lt
      have hgwlt := hwant.lt
      clear hsl HI4 HI5 HI hb4 hb5
      have hlm : ms.length ≤ 30 := by omega
      have hnp60 : np ≤ 60 := by omega
      have hg0 : (w5.alloc (.cells #[.slice (some ⟨gm, 0, none⟩) ms.length cm, .slice (some ⟨gp, 0, none⟩) np cp] 46)).cell? ⟨w5.heap.size, 0, none⟩ = some (.slice (some ⟨gm, 0, none⟩) ms.length cm) := by
        rw [cell_of_row _ _ _ _ _ _ (heap_alloc_new w5 _)]; rfl
      have hom6 := hom.below ((Below.refl _ _).alloc (Nat.le_refl _) (.cells #[.slice (some ⟨gm, 0, none⟩) ms.length cm, .slice (some ⟨gp, 0, none⟩) np cp] 46)) hgmlt
      have hwa6 := hwant.below ((Below.refl _ _).alloc (Nat.le_refl _) (.cells #[.slice (some ⟨gm, 0, none⟩) ms.length cm, .slice (some ⟨gp, 0, none⟩) np cp] 46)) hgwlt
      have hbel6 : Below w.heap.size w (w5.alloc (.cells #[.slice (some ⟨gm, 0, none⟩) ms.length cm, .slice (some ⟨gp, 0, none⟩) np cp] 46)) := hbel5.alloc hbel5.size _
      clear hom hwant hbel5
      go_wp2
      generalize hW6 : w5.alloc (.cells #[.slice (some ⟨gm, 0, none⟩) ms.length cm, .slice (some ⟨gp, 0, none⟩) np cp] 46) = W6 at hg0 hom6 hwa6 hbel6 ⊢
      clear hW6
      go_loopw [221] (fun v wr' => ∃ j m : Nat, j ≤ ms.length ∧ v = .int .i64 (j : Int) ∧ wr' = W6.drewN m) (fun v _ => ms.length - (intOf v).toNat)
      case atStart => exact ⟨0, 0, Nat.zero_le _, rfl, rfl⟩
      case round =>
        obtain ⟨j, m, hj, rfl, rfl⟩ := hrel
        by_cases hjl : j < ms.length
        · have hjl' : (j : Int) < (ms.length : Int) := by omega
          obtain ⟨k0, k1, k2⟩ := msCells_at ms j hjl
          have q0 := hom6.cell _ _ k0
          have q1 := hom6.cell _ _ k1
          have q2 := hom6.cell _ _ k2
          have r0 := hwa6.cell _ _ k0
          have r1 := hwa6.cell _ _ k1
          have r2 := hwa6.cell _ _ k2
          have hnq := neq38
          clear k0 k1 k2
          go_wp2
          go_quiet (fail)
          go_wp2
          go_roundw
          case rel => exact ⟨j + 1, _, by omega, by go_num, rfl⟩
          case measure => simp [intOf]; omega
        · have hjl' : ¬ (j : Int) < (ms.length : Int) := by omega
          go_wp2
          go_ret
          exact ⟨rfl, hbel6.trans ⟨rfl, rfl, rfl, Nat.le_refl _, fun _ _ => rfl⟩⟩
end Go.Proofs.YbulkblxcFmt
