import Derived.Test.YbulkblxcFmtBSlices
import Derived.Test.YbulkblxcFmtCModel
import Derived.Lib.SliceRun
import Derived.Deep.CutRange
namespace Go.Proofs.YbulkblxcFmt
open Go.RowKit Go.Extern.Stop Go.Stop Go.Extern
set_option linter.unusedVariables false

/-- A Reader over a new zzs3135bfile over a row of bytes. -/
theorem rb_start {D o n cap : Nat} {bs : Nat → Int} {fl : Bool} {w : World} (h : Bytes w D o n bs) (hD : D < w.heap.size) (hn : n ≤ 1000000) (hcap : n ≤ cap) (hcm : cap ≤ 1000000) :
    RbAt (w.heap.size + 1) w.heap.size D o n cap bs fl ((w.alloc (.cells #[.slice (some ⟨D, o, none⟩) n cap, .bool fl] 43)).alloc (.cells #[.iface 41 (.pointer (some ⟨w.heap.size, 0, none⟩)), .int .u64 (n : Int)] 70)) := by
  refine ⟨?_, ?_, ?_, ?_, ?_, by simp; omega, hn, hcap, hcm⟩
  · go_simp
  · go_simp
  · go_simp
  · go_simp
  · exact h.below (((Below.refl w.heap.size _).alloc (Nat.le_refl _) _).alloc (by simp) _) hD

theorem rb_law {D n : Nat} {bs : Nat → Int} {fl : Bool} {w1 w3 : World} (hB : Bytes w1 D 0 n bs) (hD : D < w1.heap.size) (hn : n ≤ 4096)
    (hw3 : w3 = (w1.alloc (.cells #[.slice (some ⟨D, 0, none⟩) n n, .bool fl] 43)).alloc (.cells #[.iface 41 (.pointer (some ⟨w1.heap.size, 0, none⟩)), .int .u64 (n : Int)] 70)) :
    RbAt (w1.heap.size + 1) w1.heap.size D 0 n n bs fl w3 ∧ Below w1.heap.size w1 w3 := by
  rw [hw3]
  exact ⟨rb_start hB hD (by omega) (Nat.le_refl _) (by omega), ((Below.refl _ _).alloc (Nat.le_refl _) _).alloc (by simp) _⟩

/-- make and copy. -/
theorem fresh_bytes (a : Option Addr) (n cap : Nat) (bs : Nat → Int) (w : World) (hn : n ≤ 4096) (h : DataIn w a n bs) :
    ∃ w2, (∀ q : IntKind, (Instr.makeSlice 26 (.int q (n : Int)) (.int q (n : Int))).run Ybaf.prog w = .ok (.slice (some ⟨w.heap.size, 0, none⟩) n n) (w.alloc (.cells (madeCells #[.int .u8 0] n) 5))) ∧
      (Builtin.copy_ #[26, 26] 3 #[.slice (some ⟨w.heap.size, 0, none⟩) n n, .slice a n cap]).run Ybaf.prog (w.alloc (.cells (madeCells #[.int .u8 0] n) 5)) = .ok (goInt n) w2 ∧
      Bytes w2 w.heap.size 0 n bs ∧ Below w.heap.size w w2 ∧ w2.heap.size = w.heap.size + 1 := by
  obtain ⟨w2, hcp, hrow, hb, hs⟩ := copy_fresh (P := Ybaf.prog) 26 5 3 Ybaf.underlying26 size5 w n cap a (byteCells bs n) (byteCells_length bs n)
    (fun h0 => by
      obtain ⟨g, o, ha, hB, _⟩ := h h0
      refine ⟨_, ha, fun j v hv => ?_⟩
      have hj : j < n := by have := (List.getElem?_eq_some_iff.1 hv).1; simpa [byteCells_length] using this
      rw [byteCells_get bs n j hj] at hv
      cases hv
      rw [add_mk]
      exact hB.at j hj)
    (byteCells_one bs n) (.int .u8 0)
  refine ⟨w2, fun q => make_bytes q n (by omega) w, hcp, ?_, hb, hs⟩
  intro j hj
  obtain ⟨g, o, ha, hB, _⟩ := h (by omega)
  refine ⟨?_, hB.bd j hj⟩
  rw [cell_of_row _ _ _ _ _ _ hrow]
  simp [byteCells, hj]

/-- Slices where the reader fails, or the file is too short. -/
theorem sl_refuse (F : Interp) (e0 : Addr) (B0 bf R C D o n cap : Nat) (bs : Nat → Int) (fl : Bool) (w : World) (P : MoW B0 bf w) (hF : F.answers w.tape) (hE : EofAt w e0) (he : e0.block < w.heap.size) (H : RbAt R C D o n cap bs fl w) (hr : fl = true ∨ n < 8) :
    Calls Ybaf.prog 12 #[.pointer (some ⟨R, 0, none⟩)] w fun e w' => ∃ t p : Nat, e = .returned (.tuple #[.agg #[.slice none 0 0, .slice none 0 0], .iface t (.pointer (some ⟨p, 0, none⟩))]) ∧ Below w.heap.size w w' := by
  have hb0 := slW_bel w
  have hP := P.below (hb0.mono P.hB)
  have H0 := H.below hb0
  by_cases h0 : n = 0
  · subst h0
    refine (sl_short R C D o 0 cap bs fl w H (by omega) (sc_zero B0 bf R C D o cap bs fl (slW w) hP H0)).mono ?_
    rintro e w' ⟨p, h1, h2⟩
    exact ⟨_, p, h1, h2⟩
  · cases fl
    · have h8 : n < 8 := by rcases hr with h | h; cases h; exact h
      refine (sl_short R C D o n cap bs false w H h8 (sc_part B0 bf R C D o n cap bs (slW w) hP H0 (by omega) h8)).mono ?_
      rintro e w' ⟨p, h1, h2⟩
      exact ⟨_, p, h1, h2⟩
    · refine (sl_fail F e0 B0 bf R C D o n cap bs w P hF hE he H (by omega)).mono ?_
      rintro e w' ⟨p, h1, h2⟩
      exact ⟨_, p, h1, h2⟩

theorem sl_empty (B0 bf R C D o n cap : Nat) (bs : Nat → Int) (w : World) (P : MoW B0 bf w) (H : RbAt R C D o n cap bs false w) (h8 : 8 ≤ n) (hv : scOk n bs = false) :
    Calls Ybaf.prog 12 #[.pointer (some ⟨R, 0, none⟩)] w fun e w' => e = .returned (.tuple #[.agg #[.slice (some ⟨w.heap.size + 1, 0, none⟩) 0 0, .slice (some ⟨w.heap.size + 1 + 1, 0, none⟩) 0 0], .nilIface]) ∧ Below w.heap.size w w' := by
  have hb0 := slW_bel w
  refine sl_none R C D o n cap bs false w H h8 ((sc_any B0 bf R C D o n cap bs (slW w) (P.below (hb0.mono P.hB)) (H.below hb0) h8).mono ?_)
  intro e w' h
  rw [ScPost, hv] at h
  exact h

def bValid (n : Nat) (bs : Nat → Int) : Bool := decide (8 ≤ n) && scOk n bs

set_option maxHeartbeats 2000000 in
set_option maxRecDepth 100000 in
theorem br_any (F : Interp) (e0 : Addr) (bf : Nat) (fl : Bool) (n cap : Nat) (a : Option Addr) (bs : Nat → Int) (w : World) (P : MoW w.heap.size bf w) (hF : F.answers w.tape) (hE : EofAt w e0) (he : e0.block < w.heap.size) (hn : n ≤ 1024) (h : DataIn w a n bs) (bd0 : 8 ≤ n → 0 ≤ be4 bs 0 ∧ be4 bs 0 ≤ 4294967295) (bd4 : 8 ≤ n → 0 ≤ be4 bs 4 ∧ be4 bs 4 ≤ 4294967295) :
    Calls Ybaf.prog 4 #[.slice a n cap, .bool fl] w fun e w' => e = .returned (.bool true) ∧ Below w.heap.size w w' := by
  obtain ⟨wB, hmk0, hcp, hB, hb, hs⟩ := fresh_bytes a n cap bs w (by omega) h
  have hmk := hmk0 .i64
  have h9 := P.h9
  have h4 : ¬ (1024 : Int) < (n : Int) := by omega
  have HS : Hid (wB.heap.size = w.heap.size + 1) := hs
  have hDB : w.heap.size < wB.heap.size := by omega
  clear hs hmk0 h
  go_enter Ybaf.func4, Ybaf.ntmps4
  go_upto_if 24 with fail
  go_cut [6] from 7 (fun s6 wx => s6 = .bool (bValid n bs) ∧ Below wB.heap.size wB wx)
  case first =>
    by_cases h8 : 8 ≤ n
    · have h8' : (8 : Int) ≤ (n : Int) := by omega
      obtain ⟨q, hq⟩ : ∃ q, be4 bs 0 = q := ⟨_, rfl⟩
      obtain ⟨c, hc⟩ : ∃ c : Nat, be4 bs 4 = (c : Int) := ⟨(be4 bs 4).toNat, (Int.toNat_of_nonneg (bd4 h8).1).symm⟩
      have hq' : le4 (bs 3) (bs 2) (bs 1) (bs 0) = q := hq
      have hc' : le4 ((fun j => bs (4 + j)) 3) ((fun j => bs (4 + j)) 2) ((fun j => bs (4 + j)) 1) ((fun j => bs (4 + j)) 0) = (c : Int) := hc
      have d4 := bd4 h8
      have d0 := bd0 h8
      rw [hc] at d4
      rw [hq] at d0
      have HB0 : Hid (be4 bs 0 = q) := hq
      have HC0 : Hid (be4 bs 4 = (c : Int)) := hc
      have HQ : Hid (le4 (bs 3) (bs 2) (bs 1) (bs 0) = q) := hq'
      have HC : Hid (le4 ((fun j => bs (4 + j)) 3) ((fun j => bs (4 + j)) 2) ((fun j => bs (4 + j)) 1) ((fun j => bs (4 + j)) 0) = (c : Int)) := hc'
      have hsc : scOk n bs = (isForm q && (decide ((c : Int) ≤ 30) && decide (8 + (c : Int) * fEs q ≤ (n : Int)))) := by rw [scOk, hq, hc]
      have HSC : Hid (scOk n bs = (isForm q && (decide ((c : Int) ≤ 30) && decide (8 + (c : Int) * fEs q ≤ (n : Int))))) := hsc
      clear hq hc hq' hc' bd0 bd4 hsc P hE hF
      have hs2 : 0 < wB.heap.size := by omega
      have hs3 : 0 < wB.heap.size + 1 := by omega
      have hB4 : Bytes wB w.heap.size 4 (n - 4) (fun j => bs (4 + j)) := fun j hj => by
        have h1 := hB (4 + j) (by omega)
        rw [Nat.zero_add] at h1
        exact h1
      go_upto_region 7 with fail
      go_cut [7] from 13 (fun s7 wx => s7 = .int .u32 q ∧ Below wB.heap.size wB wx)
      case first =>
        go_region_with (go_at_call 13; refine (be_uint32 w.heap.size 0 n n bs _ (by omega) (hB.below (B := wB.heap.size) (by repeat (first | exact Below.refl _ _ | refine below_drewN ?_ _ | refine Below.drew ?_ | refine Below.alloc ?_ (by simp) _)) hDB)).mono ?_; rw [HQ.out]; rintro e w' ⟨rfl, nq, rfl⟩)
        all_goals go_wp2
        all_goals go_meet
        all_goals refine ⟨rfl, ?_⟩
        all_goals (repeat (first | exact Below.refl _ _ | refine below_drewN ?_ _ | refine Below.drew ?_ | refine Below.alloc ?_ (by simp) _))
      case rest =>
        obtain ⟨rfl, hb1⟩ := hcut
        have hDc := Nat.lt_of_lt_of_le hDB hb1.size
        have hs4 : 0 < wc.heap.size := by omega
        have hs5 : 0 < wc.heap.size + 1 := by omega
        have hB5 := hB4.below hb1 hDB
        have hB5' := hB.below hb1 hDB
        go_upto_region 8 with fail
        go_cut [8] from 13 (fun s8 wx => s8 = .int .u64 (c : Int) ∧ Below wB.heap.size wB wx)
        case first =>
          go_region_with (go_at_call 13; refine (be_uint32 w.heap.size 4 (n - 4) (n - 4) (fun j => bs (4 + j)) _ (by omega) (hB5.below (B := wc.heap.size) (by repeat (first | exact Below.refl _ _ | refine below_drewN ?_ _ | refine Below.drew ?_ | refine Below.alloc ?_ (by simp) _)) hDc)).mono ?_; rw [HC.out]; rintro e w' ⟨rfl, nq, rfl⟩)
          all_goals go_wp2
          all_goals go_meet
          all_goals refine ⟨by rw [wrap_u64_small (by omega) (by omega)], ?_⟩
          all_goals refine hb1.trans ?_
          all_goals (repeat (first | exact Below.refl _ _ | refine below_drewN ?_ _ | refine Below.drew ?_ | refine Below.alloc ?_ hb1.size _))
        case rest =>
          obtain ⟨rfl, hb2⟩ := hcut
          have HB2 : Hid (Below wB.heap.size wB wc) := hb2
          clear hb2 hb1 hB5 hB5' hB4 hB hDc hs4 hs5 hs2 hs3 HQ HC
          by_cases q1 : q = 3405691582
          · subst q1
            by_cases hc30 : c ≤ 30
            · have hc30' : (c : Int) ≤ 30 := by omega
              by_cases hf : 8 + (c : Int) * 20 ≤ (n : Int)
              · have HV : Hid (bValid n bs = true) := by show _ = _; rw [bValid, HSC.out, decide_eq_true h8, decide_eq_true hc30', show fEs 3405691582 = 20 from rfl, decide_eq_true hf]; rfl
                go_wp2
                go_meet
                exact ⟨by rw [HV.out], HB2.out⟩
              · have HV : Hid (bValid n bs = false) := by show _ = _; rw [bValid, HSC.out, show fEs 3405691582 = 20 from rfl, decide_eq_false hf]; simp
                go_wp2
                go_meet
                exact ⟨by rw [HV.out], HB2.out⟩
            · have hc30' : ¬ (c : Int) ≤ 30 := by omega
              have HV : Hid (bValid n bs = false) := by show _ = _; rw [bValid, HSC.out, decide_eq_false hc30']; simp
              go_wp2
              go_meet
              exact ⟨by rw [HV.out], HB2.out⟩
          · by_cases q2 : q = 3405691583
            · subst q2
              by_cases hc30 : c ≤ 30
              · have hc30' : (c : Int) ≤ 30 := by omega
                by_cases hf : 8 + (c : Int) * 32 ≤ (n : Int)
                · have HV : Hid (bValid n bs = true) := by show _ = _; rw [bValid, HSC.out, decide_eq_true h8, decide_eq_true hc30', show fEs 3405691583 = 32 from rfl, decide_eq_true hf]; rfl
                  go_wp2
                  go_meet
                  exact ⟨by rw [HV.out], HB2.out⟩
                · have HV : Hid (bValid n bs = false) := by show _ = _; rw [bValid, HSC.out, show fEs 3405691583 = 32 from rfl, decide_eq_false hf]; simp
                  go_wp2
                  go_meet
                  exact ⟨by rw [HV.out], HB2.out⟩
              · have hc30' : ¬ (c : Int) ≤ 30 := by omega
                have HV : Hid (bValid n bs = false) := by show _ = _; rw [bValid, HSC.out, decide_eq_false hc30']; simp
                go_wp2
                go_meet
                exact ⟨by rw [HV.out], HB2.out⟩
            · have HV : Hid (bValid n bs = false) := by show _ = _; rw [bValid, HSC.out, show isForm q = false from by simp [isForm, q1, q2]]; simp
              go_wp2
              go_meet
              exact ⟨by rw [HV.out], HB2.out⟩
    · have h8' : ¬ (8 : Int) ≤ (n : Int) := by omega
      go_wp2
      go_meet
      exact ⟨by simp [bValid, h8], Below.refl _ _⟩
  case rest =>
    obtain ⟨rfl, hb1⟩ := hcut
    have heq32 := fun w a n c => Go.Lib.run_eql_slice_nil (P := Ybaf.prog) w 32 38 a n c 0 0 Ybaf.underlying32
    have heq44 := fun w a n c => Go.Lib.run_eql_slice_nil (P := Ybaf.prog) w 44 9 a n c 0 0 Ybaf.underlying44
    have hbw : Below w.heap.size w wc := hb.trans (hb1.mono (Nat.le_of_lt hDB))
    have hBc := hB.below hb1 hDB
    have hDc := Nat.lt_of_lt_of_le hDB hb1.size
    have h7 : 7 < w.heap.size := World.block_lt_of_cell? w _ hE.var
    clear hb1 hB hb hcp hmk
    cases fl
    · cases hv : bValid n bs
      · have HV : Hid (bValid n bs = false) := hv
        clear hv
        go_wp2_with fail
        refine (new_any 41 ⟨wc.heap.size, 0, none⟩ (n : Int) _ (by omega) (by omega)).mono ?_
        rintro e w3 ⟨rfl, hw3⟩
        obtain ⟨hrd, hb3⟩ := rb_law hBc hDc (by omega) hw3
        rw [show (wc.alloc (.cells #[.slice (some ⟨w.heap.size, 0, none⟩) n n, .bool false] 43)).heap.size = wc.heap.size + 1 from by simp]
        have hb3' : Below w.heap.size w w3 := hbw.trans (hb3.mono (Nat.le_of_lt hDc))
        have hP3 := P.below hb3'
        have hE3 := hE.below hb3' h7 he
        have hF3 : F.answers w3.tape := by rw [hb3'.tape]; exact hF
        by_cases h8 : 8 ≤ n
        · have h8' : ¬ (n : Int) < 8 := by omega
          have hsl := sl_empty w.heap.size bf _ _ _ _ _ _ bs w3 hP3 hrd h8 (by have := HV.out; rw [bValid, decide_eq_true h8] at this; exact this)
          clear hw3 hF3 hE3 hF hE hrd hBc
          go_wp2_with fail
          refine hsl.mono ?_
          rintro e w4 ⟨rfl, hb4⟩
          clear hsl
          go_wp2
          go_ret
          exact ⟨rfl, (hb3'.trans (hb4.mono hP3.hB)).alloc (by have := hb4.size; have := hP3.hB; omega) _⟩
        · have h8' : (n : Int) < 8 := by omega
          have hsl := sl_refuse F e0 w.heap.size bf _ _ _ _ _ _ bs false w3 hP3 hF3 hE3 (Nat.lt_of_lt_of_le he hP3.hB) hrd (Or.inr (by omega))
          clear hw3 hF3 hE3 hF hE hrd hBc
          go_wp2_with fail
          refine hsl.mono ?_
          rintro e w4 ⟨t4, p4, rfl, hb4⟩
          clear hsl
          go_wp2
          go_ret
          exact ⟨rfl, (hb3'.trans (hb4.mono hP3.hB)).alloc (by have := hb4.size; have := hP3.hB; omega) _⟩
      · have HV : Hid (bValid n bs = true) := hv
        clear hv
        go_wp2
        go_ret
        exact ⟨rfl, hbw⟩
    · generalize bValid n bs = bv
      go_wp2_with fail
      all_goals
        refine (new_any 41 ⟨wc.heap.size, 0, none⟩ (n : Int) _ (by omega) (by omega)).mono ?_
        rintro e w3 ⟨rfl, hw3⟩
        obtain ⟨hrd, hb3⟩ := rb_law hBc hDc (by omega) hw3
        rw [show (wc.alloc (.cells #[.slice (some ⟨w.heap.size, 0, none⟩) n n, .bool true] 43)).heap.size = wc.heap.size + 1 from by simp]
        have hb3' : Below w.heap.size w w3 := hbw.trans (hb3.mono (Nat.le_of_lt hDc))
        have hP3 := P.below hb3'
        have hE3 := hE.below hb3' h7 he
        have hF3 : F.answers w3.tape := by rw [hb3'.tape]; exact hF
        have hsl := sl_refuse F e0 w.heap.size bf _ _ _ _ _ _ bs true w3 hP3 hF3 hE3 (Nat.lt_of_lt_of_le he hP3.hB) hrd (Or.inl rfl)
        clear hw3 hF3 hE3 hF hE hrd hBc
        go_wp2_with fail
        refine hsl.mono ?_
        rintro e w4 ⟨t4, p4, rfl, hb4⟩
        clear hsl
        go_wp2
        go_ret
        exact ⟨rfl, (hb3'.trans (hb4.mono hP3.hB)).alloc (by have := hb4.size; have := hP3.hB; omega) _⟩
end Go.Proofs.YbulkblxcFmt
