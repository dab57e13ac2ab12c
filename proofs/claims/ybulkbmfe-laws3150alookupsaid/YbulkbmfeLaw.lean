import Derived.Test.YbulkbmfeHit
import Derived.BigQuiet
import Derived.Deep.CutBlock
import Derived.LaidEqlPtr
namespace Go.Proofs.Ybulkbmfe
open Go.RowKit Go.WideMaps Go.Maps Go.Conc.Locks
set_option linter.unusedVariables false

/-! ### the plain law: what the index holds -/
abbrev keyLit (s : ByteArray) : Lit := .string s.data.toList

theorem keyLit_ne {s t : ByteArray} (h : s ≠ t) : keyLit s ≠ keyLit t := by
  intro e
  apply h
  have e1 : s.data.toList = t.data.toList := by simpa [keyLit] using e
  cases s; cases t
  simp at e1
  rw [e1]

theorem isMap_idx (pub : Nat → ByteArray) : ∀ k, IsMap (Idx pub k)
  | 0 => isMap_empty
  | k + 1 => (isMap_idx pub k).put _ _

theorem idx_none (pub : Nat → ByteArray) (q : ByteArray) : ∀ k, (∀ i, i < k → pub i ≠ q) → Maps.has (Idx pub k) (keyLit q) = false
  | 0, _ => rfl
  | k + 1, h => by
    have hne : keyLit q ≠ keyLit (pub k) := keyLit_ne (Ne.symm (h k (by omega)))
    show Maps.has ((Idx pub k).put (keyLit (pub k)) _) (keyLit q) = false
    rw [has_put_other hne]
    exact idx_none pub q k (fun i hi => h i (by omega))

theorem idx_some (pub : Nat → ByteArray) (q : ByteArray) (j : Nat) (hq : pub j = q) : ∀ k, j < k → (∀ i, j < i → i < k → pub i ≠ q) →
    Maps.has (Idx pub k) (keyLit q) = true ∧ (Idx pub k).atKey (keyLit q) (.lit (.int .i64 0)) = .lit (.int .i64 j)
  | 0, h, _ => absurd h (Nat.not_lt_zero _)
  | k + 1, hj, h => by
    by_cases hjk : j = k
    · subst hjk
      show Maps.has ((Idx pub j).put (keyLit (pub j)) _) (keyLit q) = true ∧ ((Idx pub j).put (keyLit (pub j)) _).atKey (keyLit q) _ = _
      rw [hq]
      exact ⟨has_put_same (isMap_idx pub j) (show WideAt.IsKeyLit (keyLit q) from trivial) _, atKey_put_same (isMap_idx pub j) (show WideAt.IsKeyLit (keyLit q) from trivial) _ _⟩
    · have hne : keyLit q ≠ keyLit (pub k) := keyLit_ne (Ne.symm (h k (by omega) (by omega)))
      obtain ⟨r1, r2⟩ := idx_some pub q j hq k (by omega) (fun i hi hik => h i hi (by omega))
      show Maps.has ((Idx pub k).put (keyLit (pub k)) _) (keyLit q) = true ∧ ((Idx pub k).put (keyLit (pub k)) _).atKey (keyLit q) _ = _
      rw [has_put_other hne, atKey_put_other hne]
      exact ⟨r1, r2⟩

theorem below_drewN {B : Nat} {a w : World} (h : Below B a w) (n : Nat) : Below B a (w.drewN n) := h.trans ⟨rfl, rfl, rfl, Nat.le_refl _, fun _ _ => rfl⟩

/-- Two addresses of two blocks are two. -/
theorem ptr_ne (w : World) (k g rb : Nat) (cur arr : Array Value) (hne : ¬ g = rb) (hg : w.heap[g]? = some (.cells cur 61 (0, 0))) (hr : w.heap[rb]? = some (.cells arr 61 (0, 0))) :
    (binOp .eql 59 (.pointer (some ⟨g, 0, none⟩)) (.pointer (some ⟨rb, 0, none⟩))).run Yba.prog (w.drewN k) = .ok (.bool false) (w.drewN k) := by
  obtain ⟨i0, hi, hz0, hz1, hz2⟩ := info_parts info61
  exact run_eql_ptr_other (w.drewN k) (a := ⟨g, 0, none⟩) (b := ⟨rb, 0, none⟩) Yba.underlying59 hi (by rw [hz1]; decide) (fun e => hne (congrArg Addr.block e)) hg hr

theorem ne_str {s t : ByteArray} (h : ¬ s = t) : (s.toList == t.toList) = false := by
  rw [beq_eq_false_iff_ne]
  intro e
  rw [ByteArray.toList_eq, ByteArray.toList_eq] at e
  exact keyLit_ne h (by show Lit.string _ = Lit.string _; rw [e])

theorem storeAt {w w0 : World} {n m0 m1 m2 m3 m5 : Nat} {pub priv : Nat → ByteArray} {rc : Nat → Nat} (h : Rel w w0 n n n pub priv rc) :
    StoreAt (w0.alloc (.cells (storeRow w.heap.size n m0 m1 m2 m3 m5) 58)) w0.heap.size w.heap.size n (Idx pub n) := by
  refine ⟨by simp, ?_, ?_, ?_, ?_, ?_, ?_, ?_, ?_, h.map.alloc _⟩
  · rw [World.cell?_alloc_new]; rfl
  · rw [World.cell?_alloc_new]; rfl
  · rw [World.cell?_alloc_new]; rfl
  · rw [World.cell?_alloc_new]; rfl
  · rw [World.frozen?_alloc_new]
  · rw [World.cell?_alloc_new]; rfl
  · rw [World.cell?_alloc_new]; rfl
  · have := h.map.lt; omega

set_option maxRecDepth 100000 in
theorem law_big (a0 a1 a2 : Option Addr) (n np nc c0 c1 c2 : Nat) (sel : Int) (q : ByteArray) (w : World) (hn : 1024 < n) :
    Calls Yba.prog 3 #[.slice a0 n c0, .slice a1 np c1, .slice a2 nc c2, .int .u8 sel, .string q] w fun e w' => e = .returned (.bool true) ∧ Below w.heap.size w w' := by
  have h' : (1024 : Int) < (n : Int) := by omega
  go_enter Yba.func3, Yba.ntmps3
  go_wp2
  go_ret
  exact ⟨rfl, Below.refl _ _⟩

set_option maxRecDepth 100000 in
set_option maxHeartbeats 4000000 in
theorem law_any (a0 a1 a2 : Option Addr) (n np nc c0 c1 c2 sel : Nat) (q : ByteArray) (pub pr : Nat → ByteArray) (cn : Nat → Nat) (w : World) (hn : n ≤ 1024) (hsel : sel < 256) (hq : q.size ≤ maxLen)
    (h0 : Strs w a0 n pub) (h1 : Strs w a1 np pr) (h2 : Byts w a2 nc cn) :
    Calls Yba.prog 3 #[.slice a0 n c0, .slice a1 np c1, .slice a2 nc c2, .int .u8 sel, .string q] w fun e w' => e = .returned (.bool true) ∧ Below w.heap.size w w' := by
  have h' : ¬ (1024 : Int) < (n : Int) := by omega
  go_enter Yba.func3, Yba.ntmps3
  go_upto_region 3 with fail
  go_cut [29] from 19 (fun s29 wx => s29 = .bool ((sel % 2 == 0) && decide (0 < n)) ∧ w = wx)
  case first =>
    by_cases hs : sel % 2 = 0
    · go_wp2
      go_meet
      exact ⟨by simp [hs], rfl⟩
    · go_wp2
      go_meet
      exact ⟨by simp [hs], rfl⟩
  case rest =>
    obtain ⟨rfl, rfl⟩ := hcut
    generalize hbb : ((sel % 2 == 0) && decide (0 < n)) = bb
    have HBB : Hid (((sel % 2 == 0) && decide (0 < n)) = bb) := hbb
    clear hbb
    go_upto_if 29 with fail
    go_cut [4] from 19 (fun s4 wx => ∃ q', s4 = .string q' ∧ q'.size ≤ maxLen ∧ w = wx)
    case first =>
      cases bb
      · go_wp2
        go_meet
        exact ⟨q, rfl, hq, rfl⟩
      · have hn0 : 0 < n := by have := HBB.out; simp at this; exact this.2
        obtain ⟨b, off, ha, hc, hs⟩ := h0.at (j := sel / 2 % n) (Nat.mod_lt _ hn0) (Below.refl _ _)
        subst ha
        have hi0 : (0 : Int) ≤ (sel : Int) / 2 % (n : Int) := Int.emod_nonneg _ (by omega)
        have hi1 : (sel : Int) / 2 % (n : Int) < (n : Int) := Int.emod_lt_of_pos _ (by omega)
        go_wp2
        go_meet
        exact ⟨_, rfl, hs, rfl⟩
    case rest =>
      obtain ⟨q', rfl, hq', rfl⟩ := hcut
      clear hq HBB
      go_wp2_with fail
      refine (build_any a0 a1 a2 n np nc c0 c1 c2 pub pr cn w hn h0 h1 h2).mono ?_
      rintro e w1 ⟨w0, m0, m1, m2, m3, m5, hrel, rfl, rfl⟩
      have hst := storeAt (m0 := m0) (m1 := m1) (m2 := m2) (m3 := m3) (m5 := m5) hrel
      obtain ⟨W, hW⟩ : ∃ W, w0.alloc (.cells (storeRow w.heap.size n m0 m1 m2 m3 m5) 58) = W := ⟨_, rfl⟩
      obtain ⟨S, hS⟩ : ∃ S, w0.heap.size = S := ⟨_, rfl⟩
      have hbW : Below w.heap.size w W := by rw [← hW]; exact hrel.bel.alloc hrel.bel.size _
      have hkeys : ∀ j, j < n → ∃ r, W.cell? ⟨w.heap.size, j * 3, none⟩ = some (.string (pub j)) ∧ W.cell? ⟨w.heap.size, j * 3 + 1, none⟩ = some (.string (privOf pr np j)) ∧
          W.cell? ⟨w.heap.size, j * 3 + 2, none⟩ = some (.slice r (cntOf cn nc j) (cntOf cn nc j)) ∧ RoleOk W w.heap.size j (cntOf cn nc j) r ∧ ∀ a, r = some a → a.block < S := by
        intro j hj
        obtain ⟨arr, hK, hsz, hfill⟩ := hrel.keys
        obtain ⟨g1, g2, r, g3, g4⟩ := hfill j hj
        have hlt := (Array.getElem?_eq_some_iff.1 hK).1
        refine ⟨r, ?_, ?_, ?_, ?_, ?_⟩
        · rw [← hW]; exact past hlt ((cell_of_row _ _ _ _ _ _ hK).trans g1)
        · rw [← hW]; exact past hlt ((cell_of_row _ _ _ _ _ _ hK).trans g2)
        · rw [← hW]; exact past hlt ((cell_of_row _ _ _ _ _ _ hK).trans g3)
        · rw [← hW]; exact g4.alloc _
        · intro a ha
          rcases g4 with ⟨h, _⟩ | ⟨rb, h, _, h3⟩
          · rw [h] at ha; cases ha
          · rw [h] at ha; cases ha; rw [← hS]; exact (Array.getElem?_eq_some_iff.1 h3).1
      rw [hW, hS] at hst ⊢
      clear hrel hW hS
      have hc11 := hst.c11
      go_upto_block 0 with fail
      go_cut [12] from 19 (fun s12 wx => W = wx ∧ ((s12 = .int .i64 (-1) ∧ ∀ i, i < n → pub i ≠ q') ∨ ∃ j : Nat, s12 = .int .i64 j ∧ j < n ∧ pub j = q' ∧ ∀ i, j < i → i < n → pub i ≠ q'))
      case first =>
        go_wp2_with fail
        go_loopg [12, 13] n (fun g s12 s13 wx => W = wx ∧ s12 = .int .i64 (-1) ∧ ∃ z : Int, s13 = .int .i64 z ∧ g ≤ n ∧ z = (g : Int) - 1 ∧ ∀ i, g ≤ i → i < n → pub i ≠ q')
        case atStart => exact ⟨rfl, rfl, _, rfl, Nat.le_refl _, rfl, fun i h1 h2 => absurd h1 (by omega)⟩
        case round =>
          obtain ⟨rfl, rfl, z, rfl, hg, hz, hno⟩ := hrel
          by_cases hg0 : gk = 0
          · obtain rfl : z = -1 := by omega
            have HNO : Hid (∀ i, gk ≤ i → i < n → pub i ≠ q') := hno
            clear hno hz
            go_wp2
            go_meet
            exact ⟨rfl, .inl ⟨rfl, fun i hi => HNO.out i (by omega) hi⟩⟩
          · obtain ⟨k, rfl⟩ : ∃ k, gk = k + 1 := ⟨gk - 1, by omega⟩
            obtain rfl : z = (k : Int) := by omega
            have HNO : Hid (∀ i, k + 1 ≤ i → i < n → pub i ≠ q') := hno
            clear hno hz hg0
            obtain ⟨b, off, ha, hc, _⟩ := h0.at (j := k) (by omega) hbW
            subst ha
            have hkn : (k : Int) < (n : Int) := by omega
            by_cases he : pub k = q'
            · go_wp2
              go_meet
              exact ⟨rfl, .inr ⟨k, rfl, by omega, he, fun i h1 h2 => HNO.out i (by omega) h2⟩⟩
            · have hd := ne_str he
              go_wp2
              go_roundg k
              case measure => omega
              case rel => exact ⟨rfl, rfl, _, rfl, by omega, by omega, fun i h1 h2 => if hik : i = k then hik ▸ he else HNO.out i (by omega) h2⟩
      case rest =>
        obtain ⟨rfl, hcase⟩ := hcut
        have hkey := keyOf_string_mk (P := Yba.prog) Yba.underlying9 hq'
        have hKS : w.heap.size ≤ S := by have := hst.bs; omega
        rcases hcase with ⟨rfl, hno⟩ | ⟨j, rfl, hj, hpj, hno⟩
        · have hmiss := key_miss S w.heap.size n (Idx pub n) q' _ W hst hkey (idx_none pub q' n hno)
          have hlt := hst.lt
          clear hno hkeys hst h0 h1 h2
          go_wp2_with fail
          refine hmiss.mono ?_
          rintro e w2 ⟨rfl, hb2, hc2⟩
          have hS2 : S < w2.heap.size := Nat.lt_of_lt_of_le hlt hb2.size
          clear hmiss hlt
          have heq := fun w a n c => Go.Lib.run_eql_slice_nil (P := Yba.prog) w 26 61 a n c 0 0 Yba.underlying26
          simp only [zKey]
          go_wp2
          go_ret
          exact ⟨rfl, (hbW.trans (hb2.mono hKS)).alloc (by omega) _⟩
        · have hc8 : cntOf cn nc j < 8 := by unfold cntOf; split <;> omega
          obtain ⟨i1, i2⟩ := idx_some pub q' j hpj n hj hno
          obtain ⟨r, k0, k1, k2, hro, hrS⟩ := hkeys j hj
          have hhit := key_hit S w.heap.size n j _ (Idx pub n) q' _ _ r _ W hst hkey i1 i2 hj hn k0 k1 k2 hro hrS hc8
          have hlt := hst.lt
          have hKS2 : w.heap.size < S := by have := hst.bs; omega
          clear hno hkeys hst i1 i2
          go_wp2_with fail
          refine hhit.mono ?_
          rintro e w2 ⟨r', cap, rfl, hnew, hb2, hc2⟩
          have hS2 : S < w2.heap.size := Nat.lt_of_lt_of_le hlt hb2.size
          have hK2 : w.heap.size < w2.heap.size := by omega
          have l0 : w2.cell? ⟨w.heap.size, j * 3, none⟩ = some (.string (pub j)) := (hb2.cell (by exact hKS2)).trans k0
          have l1 : w2.cell? ⟨w.heap.size, j * 3 + 1, none⟩ = some (.string (privOf pr np j)) := (hb2.cell (by exact hKS2)).trans k1
          have l2 : w2.cell? ⟨w.heap.size, j * 3 + 2, none⟩ = some (.slice r (cntOf cn nc j) (cntOf cn nc j)) := (hb2.cell (by exact hKS2)).trans k2
          have hb3 : Below w.heap.size w w2 := hbW.trans (hb2.mono hKS)
          have hjn : (j : Int) < (n : Int) := by omega
          have hrb2 : ∀ rb, r = some ⟨rb, 0, none⟩ → ∃ arr, w2.heap[rb]? = some (.cells arr 61 (0, 0)) := by
            intro rb hr
            rcases hro with ⟨h, _⟩ | ⟨rb', h, _, h3⟩
            · rw [h] at hr; cases hr
            · rw [h] at hr; cases hr
              exact ⟨_, (hb2.block rb (hrS _ h)).trans h3⟩
          have HRB : Hid (∀ rb, r = some ⟨rb, 0, none⟩ → ∃ arr, w2.heap[rb]? = some (.cells arr 61 (0, 0))) := hrb2
          clear hhit hlt hb2 hbW k0 k1 k2 hro hrS hkey hc11 hKS hKS2 hrb2
          have heq := fun w a n c => Go.Lib.run_eql_slice_nil (P := Yba.prog) w 26 61 a n c 0 0 Yba.underlying26
          generalize hpv : privOf pr np j = pv
          have HPV : Hid (privOf pr np j = pv) := hpv
          generalize hcv : cntOf cn nc j = c
          have HCV : Hid (cntOf cn nc j = c) := hcv
          rw [hpv] at l1
          rw [hcv] at l2 hnew hc8
          clear hpv hcv
          have HNW : Hid (NewRoles w2 r r' (W.heap.size + 2) c cap) := hnew
          clear hnew
          go_upto_if 104 with fail
          obtain ⟨w3, hw3⟩ : ∃ w3, ((w2.alloc (.cells #[.string q', .string pv, .slice r' c cap] 28)).alloc (.cells #[.string q', .string pv, .slice r c c] 28)) = w3 := ⟨_, rfl⟩
          have hsz : (w2.alloc (.cells #[.string q', .string pv, .slice r' c cap] 28)).heap.size = w2.heap.size + 1 := by simp
          have p0 : w3.cell? ⟨w2.heap.size, 0, none⟩ = some (.string q') := by rw [← hw3]; exact past (by omega) (by rw [World.cell?_alloc_new]; rfl)
          have p1 : w3.cell? ⟨w2.heap.size, 1, none⟩ = some (.string pv) := by rw [← hw3]; exact past (by omega) (by rw [World.cell?_alloc_new]; rfl)
          have p2 : w3.cell? ⟨w2.heap.size, 2, none⟩ = some (.slice r' c cap) := by rw [← hw3]; exact past (by omega) (by rw [World.cell?_alloc_new]; rfl)
          have t1 : w3.cell? ⟨w2.heap.size + 1, 1, none⟩ = some (.string pv) := by rw [← hw3, World.cell?_alloc_at _ _ _ _ hsz.symm]; rfl
          have t2 : w3.cell? ⟨w2.heap.size + 1, 2, none⟩ = some (.slice r c c) := by rw [← hw3, World.cell?_alloc_at _ _ _ _ hsz.symm]; rfl
          have hb4 : Below w.heap.size w w3 := by rw [← hw3]; exact (hb3.alloc (by omega) _).alloc (by rw [hsz]; omega) _
          have hup : ∀ (b : Nat) (o : Obj), w2.heap[b]? = some o → w3.heap[b]? = some o := by
            intro b o h
            have hlt := (Array.getElem?_eq_some_iff.1 h).1
            rw [← hw3, heap_alloc_old _ _ (by rw [hsz]; omega), heap_alloc_old _ _ hlt]
            exact h
          have HUP : Hid (∀ (b : Nat) (o : Obj), w2.heap[b]? = some o → w3.heap[b]? = some o) := hup
          clear hup
          rw [hw3]
          clear hw3 hsz l0 l1 l2 hb3 hc2 hS2 hK2
          go_cut [17] from 19 (fun s17 wx => s17 = .string pv ∧ w3 = wx)
          case first =>
            by_cases hp : j < np
            · have hp' : (j : Int) < (np : Int) := by omega
              obtain ⟨b, off, ha, hc, _⟩ := h1.at hp hb4
              subst ha
              go_wp2
              go_meet
              exact ⟨by rw [← HPV.out]; simp [privOf, hp], rfl⟩
            · have hp' : ¬ (j : Int) < (np : Int) := by omega
              go_wp2
              go_meet
              exact ⟨by rw [← HPV.out]; simp [privOf, hp]; rfl, rfl⟩
          case rest =>
          obtain ⟨rfl, rfl⟩ := hcut
          obtain ⟨b0, off0, ha0, hc0, _⟩ := h0.at hj hb4
          rw [hpj] at hc0
          subst ha0
          go_upto_region 23 with fail
          go_quiet (fail)
          go_upto_if 131 with fail
          go_cut [18] from 19 (fun s18 wx => s18 = .int .i64 c ∧ w3.drewN nq = wx)
          case first =>
            by_cases hp : j < nc
            · have hp' : (j : Int) < (nc : Int) := by omega
              obtain ⟨b, off, ha, hc, h256⟩ := h2.at hp hb4
              subst ha
              go_wp2
              go_meet
              exact ⟨by rw [← HCV.out]; simp [cntOf, hp], rfl⟩
            · have hp' : ¬ (j : Int) < (nc : Int) := by omega
              go_wp2
              go_meet
              exact ⟨by rw [← HCV.out]; simp [cntOf, hp], rfl⟩
          case rest =>
          obtain ⟨rfl, rfl⟩ := hcut
          clear hc0 h0 h1 h2 HPV HCV
          rcases HNW.out with ⟨rfl, rfl, rfl, rfl⟩ | ⟨rb, g, cur, rfl, hrb, rfl, hg, hcur⟩
          · clear HNW HUP HRB
            go_upto_region 32 with fail
            go_quiet (fail)
            go_wp2
            go_ret
            exact ⟨rfl, below_drewN (below_drewN hb4 _) _⟩
          · have hne : ¬ g = rb := by omega
            obtain ⟨arr, harr⟩ := HRB.out rb rfl
            have hpe := fun m k => ptr_ne (w3.drewN m) k g rb cur arr hne (HUP.out _ _ hcur) (HUP.out _ _ harr)
            have hpe1 := fun k => ptr_ne w3 k g rb cur arr hne (HUP.out _ _ hcur) (HUP.out _ _ harr)
            clear HNW hrb hg HUP HRB hcur harr
            by_cases hc0 : 0 < c
            · have hc0' : (0 : Int) < (c : Int) := by omega
              go_upto_region 32 with fail
              go_quiet (fail)
              go_wp2
              go_ret
              exact ⟨rfl, below_drewN (below_drewN hb4 _) _⟩
            · obtain rfl : c = 0 := by omega
              go_upto_region 32 with fail
              go_quiet (fail)
              go_wp2
              go_ret
              exact ⟨rfl, below_drewN (below_drewN hb4 _) _⟩
end Go.Proofs.Ybulkbmfe
