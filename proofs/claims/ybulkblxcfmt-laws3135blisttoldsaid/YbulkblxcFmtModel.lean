import Derived.Test.YbulkblxcFmtClone
import Derived.Deep.CutRange
namespace Go.Proofs.YbulkblxcFmt
open Go.RowKit
set_option linter.unusedVariables false

def modS (n : Nat) (bs : Nat → Int) : ByteArray := if isMZ n bs then peS (decide (64 ≤ n) && isPE n bs) else if n < 2 then ⟨#[]⟩ else cofS (isMach (le2 (bs 0) (bs 1)))
def modN (n : Nat) (bs : Nat → Int) : Int := if isMZ n bs then peN (decide (64 ≤ n) && isPE n bs) (lfa bs) else 0

def Modelled (n : Nat) (bs : Nat → Int) (w : World) (e : Ending) (w' : World) : Prop :=
  e = .returned (.tuple #[.string (modS n bs), .int .u64 (modN n bs)]) ∧ ∃ m, w' = w.drewN m

theorem ret_mod {s s' : ByteArray} {x x' : Int} (h : s = s') (h' : x = x') : Ending.returned (.tuple #[.string s, .int .u64 x]) = .returned (.tuple #[.string s', .int .u64 x']) := by rw [h, h']

set_option maxRecDepth 100000 in
set_option maxHeartbeats 2000000 in
theorem model_any (g n : Nat) (bs : Nat → Int) (w : World) (hn : n ≤ 4096) (h : Bytes w g 0 n bs) :
    Calls Ybaf.prog 17 #[.slice (some ⟨g, 0, none⟩) n n] w fun e w' => Modelled n bs w e w' := by
  go_enter Ybaf.func17, Ybaf.ntmps17
  go_upto_region 1 with fail
  go_cut [20] from 6 (fun s20 wx => s20 = .bool (isMZ n bs) ∧ w = wx)
  case first =>
    by_cases h2 : 2 ≤ n
    · have h2' : (2 : Int) ≤ (n : Int) := by omega
      have hn1 : (1 : Int) < (n : Int) := by omega
      have hn0 : (0 : Int) < (n : Int) := by omega
      have e0 := h.at 0 (by omega)
      have e1 := h.at 1 (by omega)
      by_cases hb0 : bs 0 = 77
      · rw [hb0] at e0
        by_cases hb1 : bs 1 = 90
        · rw [hb1] at e1
          go_wp2
          go_meet
          exact ⟨by simp [isMZ, h2, hb0, hb1], rfl⟩
        · go_wp2
          go_meet
          exact ⟨by simp [isMZ, h2, hb0, hb1], rfl⟩
      · go_wp2
        go_meet
        exact ⟨by simp [isMZ, h2, hb0], rfl⟩
    · have h2' : ¬ (2 : Int) ≤ (n : Int) := by omega
      go_wp2
      go_meet
      exact ⟨by simp [isMZ, h2], rfl⟩
  case rest =>
    obtain ⟨rfl, rfl⟩ := hcut
    cases hmz : isMZ n bs
    · have HZ : Hid (isMZ n bs = false) := hmz
      clear hmz
      by_cases h2 : 2 ≤ n
      · have h2' : ¬ (n : Int) < (2 : Int) := by omega
        have hn1 : (1 : Int) < (n : Int) := by omega
        have hn0 : (0 : Int) < (n : Int) := by omega
        have e0 := h.at 0 (by omega)
        have e1 := h.at 1 (by omega)
        have b0 := h.bd 0 (by omega)
        have b1 := h.bd 1 (by omega)
        go_upto_region 10 with fail
        go_cut [5] from 6 (fun s5 wx => s5 = .int .u16 (le2 (bs 0) (bs 1)) ∧ ∃ m, wx = w.drewN m)
        case first =>
          go_quiet (fail)
          go_wp2
          go_meet
          exact ⟨by rw [le2_u16 b0 b1], _, rfl⟩
        case rest =>
          obtain ⟨rfl, m, rfl⟩ := hcut
          generalize hq : le2 (bs 0) (bs 1) = q
          have HQ : Hid (le2 (bs 0) (bs 1) = q) := hq
          clear hq e0 e1 b0 b1
          have HNZ : Hid (2 ≤ n) := h2
          have fin : ∀ b : Bool, isMach q = b → Modelled n bs w (.returned (.tuple #[.string (cofS b), .int .u64 0])) (w.drewN m) := fun b hb =>
            ⟨ret_mod (by have := HNZ.out; simp only [modS, HZ.out, HQ.out, hb]; rw [if_neg (by simp), if_neg (by omega)]) (by simp [modN, HZ.out]), m, rfl⟩
          have FIN : Hid (∀ b : Bool, isMach q = b → Modelled n bs w (.returned (.tuple #[.string (cofS b), .int .u64 0])) (w.drewN m)) := fin
          clear fin h2 h2' hn1 hn0 h
          by_cases q1 : q = 332
          · subst q1
            go_wp2
            go_ret2
            exact FIN.out true rfl
          · by_cases q2 : q = 448
            · subst q2
              go_wp2
              go_ret2
              exact FIN.out true rfl
            · by_cases q3 : q = 452
              · subst q3
                go_wp2
                go_ret2
                exact FIN.out true rfl
              · by_cases q4 : q = 34404
                · subst q4
                  go_wp2
                  go_ret2
                  exact FIN.out true rfl
                · by_cases q5 : q = 43620
                  · subst q5
                    go_wp2
                    go_ret2
                    exact FIN.out true rfl
                  · go_wp2
                    go_ret2
                    exact FIN.out false (by simp [isMach, q1, q2, q3, q4, q5])
      · have h2' : (n : Int) < (2 : Int) := by omega
        go_wp2
        go_ret2
        exact ⟨ret_mod (by simp [modS, HZ.out]; omega) (by simp [modN, HZ.out]), 0, rfl⟩
    · have HZ : Hid (isMZ n bs = true) := hmz
      clear hmz
      by_cases h64 : 64 ≤ n
      · have h64' : ¬ (n : Int) < (64 : Int) := by omega
        have m0 : (60 : Int) < (n : Int) := by omega
        have m1 : (61 : Int) < (n : Int) := by omega
        have m2 : (62 : Int) < (n : Int) := by omega
        have m3 : (63 : Int) < (n : Int) := by omega
        have e0 := h.at 60 (by omega)
        have e1 := h.at 61 (by omega)
        have e2 := h.at 62 (by omega)
        have e3 := h.at 63 (by omega)
        have b0 := h.bd 60 (by omega)
        have b1 := h.bd 61 (by omega)
        have b2 := h.bd 62 (by omega)
        have b3 := h.bd 63 (by omega)
        go_upto_region 4 with fail
        go_cut [4] from 6 (fun s4 wx => s4 = .int .u64 (lfa bs) ∧ ∃ m, wx = w.drewN m)
        case first =>
          go_quiet (fail)
          go_wp2
          go_meet
          exact ⟨by rw [le4_u64 b0 b1 b2 b3]; rfl, _, rfl⟩
        case rest =>
          obtain ⟨rfl, m, rfl⟩ := hcut
          have hbd := le4_bd b0 b1 b2 b3
          obtain ⟨q, hq⟩ : ∃ q : Nat, lfa bs = (q : Int) := ⟨(lfa bs).toNat, (Int.toNat_of_nonneg hbd.1).symm⟩
          have hq32 : q ≤ 4294967295 := by have := hbd.2; have e : lfa bs = le4 (bs 60) (bs 61) (bs 62) (bs 63) := rfl; omega
          rw [hq]
          have HQ : Hid (lfa bs = (q : Int)) := hq
          clear e0 e1 e2 e3 b0 b1 b2 b3 m0 m1 m2 m3 hq hbd
          go_upto_region 5 with fail
          go_cut [82] from 6 (fun s82 wx => s82 = .bool (isPE n bs) ∧ w.drewN m = wx)
          case first =>
            have ePE : isPE n bs = (decide ((q : Int) + 4 ≤ (n : Int)) && (decide (bs q = 80) && (decide (bs (q + 1) = 69) && (decide (bs (q + 2) = 0) && decide (bs (q + 3) = 0))))) := by
              simp [isPE, HQ.out]
            have HPE : Hid (isPE n bs = (decide ((q : Int) + 4 ≤ (n : Int)) && (decide (bs q = 80) && (decide (bs (q + 1) = 69) && (decide (bs (q + 2) = 0) && decide (bs (q + 3) = 0)))))) := ePE
            clear ePE
            by_cases hfit : q + 4 ≤ n
            · have hf' : (q : Int) + 4 ≤ (n : Int) := by omega
              have k0 : (q : Int) < (n : Int) := by omega
              have k1 : (q : Int) + 1 < (n : Int) := by omega
              have k2 : (q : Int) + 2 < (n : Int) := by omega
              have k3 : (q : Int) + 3 < (n : Int) := by omega
              have e0 := h.at q (by omega)
              have e1 := h.at (q + 1) (by omega)
              have e2 := h.at (q + 2) (by omega)
              have e3 := h.at (q + 3) (by omega)
              rw [Nat.zero_add] at e0 e1 e2 e3
              clear h
              generalize hx0 : bs q = x0 at e0 HPE
              generalize hx1 : bs (q + 1) = x1 at e1 HPE
              generalize hx2 : bs (q + 2) = x2 at e2 HPE
              generalize hx3 : bs (q + 3) = x3 at e3 HPE
              clear hx0 hx1 hx2 hx3
              by_cases c0 : x0 = 80
              · subst c0
                by_cases c1 : x1 = 69
                · subst c1
                  by_cases c2 : x2 = 0
                  · subst c2
                    by_cases c3 : x3 = 0
                    · subst c3
                      go_wp2
                      go_meet
                      exact ⟨by rw [HPE.out]; simp [hf'], rfl⟩
                    · go_wp2
                      go_meet
                      exact ⟨by rw [HPE.out]; simp [c3], rfl⟩
                  · go_wp2
                    go_meet
                    exact ⟨by rw [HPE.out]; simp [c2], rfl⟩
                · go_wp2
                  go_meet
                  exact ⟨by rw [HPE.out]; simp [c1], rfl⟩
              · go_wp2
                go_meet
                exact ⟨by rw [HPE.out]; simp [c0], rfl⟩
            · have hf' : ¬ (q : Int) + 4 ≤ (n : Int) := by omega
              go_wp2
              go_meet
              exact ⟨by rw [HPE.out, decide_eq_false (by omega)]; rfl, rfl⟩
          case rest =>
            obtain ⟨rfl, rfl⟩ := hcut
            have fin : ∀ b : Bool, isPE n bs = b → Modelled n bs w (.returned (.tuple #[.string (peS b), .int .u64 (peN b (q : Int))])) (w.drewN m) := fun b hb =>
              ⟨ret_mod (by simp only [modS, HZ.out, hb, decide_eq_true h64]; simp) (by simp only [modN, HZ.out, hb, HQ.out, decide_eq_true h64]; simp), m, rfl⟩
            have FIN : Hid (∀ b : Bool, isPE n bs = b → Modelled n bs w (.returned (.tuple #[.string (peS b), .int .u64 (peN b (q : Int))])) (w.drewN m)) := fin
            clear fin h
            cases hpe : isPE n bs
            · have HP : Hid (isPE n bs = false) := hpe
              clear hpe
              go_wp2
              go_ret2
              exact FIN.out false HP.out
            · have HP : Hid (isPE n bs = true) := hpe
              clear hpe
              go_wp2
              go_ret2
              exact FIN.out true HP.out
      · have h64' : (n : Int) < (64 : Int) := by omega
        go_wp2
        go_ret2
        exact ⟨ret_mod (by simp [modS, HZ.out, h64, peS]) (by simp [modN, HZ.out, h64, peN]), 0, rfl⟩
end Go.Proofs.YbulkblxcFmt
