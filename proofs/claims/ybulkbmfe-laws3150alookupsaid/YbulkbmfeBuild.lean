import Derived.Test.YbulkbmfeLocks
import Derived.Maps.Own
import Derived.Maps.OwnSet
import Derived.WalkKit
import Derived.Deep.CutRange
import Derived.Deep.LoopGhost
namespace Go.Proofs.Ybulkbmfe
open Go.RowKit Go.WideMaps Go.Maps
set_option linter.unusedVariables false

theorem law9 : Keyed Yba.prog 9 := string_keyed Yba.underlying9
theorem zero3 (w : World) : (zeroValue 3).run Yba.prog w = .ok (.int .i64 0) w := by kernel_rfl

/-- A slice of strings that came in. -/
def Strs (w : World) (a : Option Addr) (n : Nat) (f : Nat → ByteArray) : Prop :=
  0 < n → ∃ b off, a = some ⟨b, off, none⟩ ∧ b < w.heap.size ∧ ∀ j, j < n → w.cell? ⟨b, off + j, none⟩ = some (.string (f j)) ∧ (f j).size ≤ maxLen
/-- A slice of bytes that came in. -/
def Byts (w : World) (a : Option Addr) (n : Nat) (f : Nat → Nat) : Prop :=
  0 < n → ∃ b off, a = some ⟨b, off, none⟩ ∧ b < w.heap.size ∧ ∀ j, j < n → w.cell? ⟨b, off + j, none⟩ = some (.int .u8 (f j)) ∧ f j < 256

/-- The index after k rounds. -/
def Idx (pub : Nat → ByteArray) : Nat → DataW Unit
  | 0 => .map []
  | k + 1 => (Idx pub k).put (.string (pub k).data.toList) (.lit (.int .i64 k))

theorem info28 : (Yba.prog.info? 28).map (fun i => (i.zero, i.size, i.bytes)) = some (some (.agg #[.string ByteArray.empty, .string ByteArray.empty, .slice none 0 0]), 3, 56) := by kernel_rfl
theorem info61 : (Yba.prog.info? 61).map (fun i => (i.zero, i.size, i.bytes)) = some (some (.agg #[.string ByteArray.empty, .string ByteArray.empty, .string ByteArray.empty]), 3, 48) := by kernel_rfl

def zKey : Array Value := #[.string ByteArray.empty, .string ByteArray.empty, .slice none 0 0]
def zRole : Array Value := #[.string ByteArray.empty, .string ByteArray.empty, .string ByteArray.empty]

theorem make_keys (n : Nat) (hn : n ≤ 1024) : ∀ wx, (Instr.makeSlice 36 (.int .i64 (n : Int)) (.int .i64 (n : Int))).run Yba.prog wx = .ok (.slice (some ⟨wx.heap.size, 0, none⟩) n n) (wx.alloc (.cells (madeCells zKey (n * 3)) 28)) := by
  obtain ⟨i0, hi, hz0, hz1, hz2⟩ := info_parts info28
  intro wx
  have h := run_make (P := Yba.prog) (w := wx) 36 28 i0 _ Yba.underlying36 hi hz0 .i64 .i64 (n : Int) (n : Int) (by omega) (by omega) (by rw [hz2]; omega) (by omega)
  rw [h, hz1, Int.toNat_natCast]
  rfl

theorem make_roles (n : Nat) (hn : n ≤ 1024) : ∀ wx, (Instr.makeSlice 26 (.int .i64 (n : Int)) (.int .i64 (n : Int))).run Yba.prog wx = .ok (.slice (some ⟨wx.heap.size, 0, none⟩) n n) (wx.alloc (.cells (madeCells zRole (n * 3)) 61)) := by
  obtain ⟨i0, hi, hz0, hz1, hz2⟩ := info_parts info61
  intro wx
  have h := run_make (P := Yba.prog) (w := wx) 26 61 i0 _ Yba.underlying26 hi hz0 .i64 .i64 (n : Int) (n : Int) (by omega) (by omega) (by rw [hz2]; omega) (by omega)
  rw [h, hz1, Int.toNat_natCast]
  rfl

/-- What a key's roles are: none, or a block of the call's own. -/
def RoleOk (wr : World) (K j c : Nat) (r : Option Addr) : Prop :=
  (r = none ∧ c = 0 ∧ j % 2 = 0) ∨ (∃ rb, r = some ⟨rb, 0, none⟩ ∧ K + 2 ≤ rb ∧ wr.heap[rb]? = some (.cells (madeCells zRole (c * 3)) 61 (0, 0)))

/-- The rows of keys: the first k are filled. -/
def Filled (wr : World) (K n k : Nat) (pub priv : Nat → ByteArray) (rc : Nat → Nat) : Prop :=
  ∃ arr, wr.heap[K]? = some (.cells arr 28 (0, 0)) ∧ arr.size = n * 3 ∧ ∀ j, j < k → arr[j * 3]? = some (.string (pub j)) ∧ arr[j * 3 + 1]? = some (.string (priv j)) ∧
    ∃ r, arr[j * 3 + 2]? = some (.slice r (rc j) (rc j)) ∧ RoleOk wr K j (rc j) r

def privOf (pr : Nat → ByteArray) (np j : Nat) : ByteArray := if j < np then pr j else ByteArray.empty
def cntOf (cn : Nat → Nat) (nc j : Nat) : Nat := if j < nc then cn j % 8 else 0

structure Rel (w wr : World) (n k km : Nat) (pub priv : Nat → ByteArray) (rc : Nat → Nat) : Prop where
  map : wr.ownsMap Yba.prog 9 (plainElem Yba.prog 3) (w.heap.size + 1) km (Idx pub km)
  keys : Filled wr w.heap.size n k pub priv rc
  bel : Below w.heap.size w wr

theorem Rel.start (w : World) (n : Nat) (pub priv : Nat → ByteArray) (rc : Nat → Nat) :
    Rel w ((w.alloc (.cells (madeCells zKey (n * 3)) 28)).alloc (.map #[] 0)) n 0 0 pub priv rc := by
  refine ⟨?_, ⟨madeCells zKey (n * 3), ?_, ?_, fun j hj => absurd hj (Nat.not_lt_zero _)⟩, ((Below.refl _ _).alloc (Nat.le_refl _) _).alloc (by simp) _⟩
  · have := World.ownsMap_made (H := Unit) (w.alloc (.cells (madeCells zKey (n * 3)) 28)) Yba.prog 9 (plainElem Yba.prog 3)
    simpa [Idx] using this
  · show ((w.heap.push _).push _)[w.heap.size]? = _
    simp [Array.getElem?_push]
  · simp [madeCells]


/-- Each cell of new roles is the empty string. -/
theorem roles_cell (c i : Nat) (hi : i < c * 3) : (madeCells zRole (c * 3))[i]? = some (.string ByteArray.empty) := by
  have hz : zRole.size = 3 := rfl
  have h3 : i % 3 = 0 ∨ i % 3 = 1 ∨ i % 3 = 2 := by omega
  simp only [madeCells, Array.getElem?_map, Array.getElem?_range, hi, if_true, Option.map_some, hz]
  rcases h3 with h3 | h3 | h3 <;> rw [h3] <;> rfl

theorem RoleOk.alloc {wr : World} {K j c : Nat} {r : Option Addr} (h : RoleOk wr K j c r) (o : Obj) : RoleOk (wr.alloc o) K j c r := by
  rcases h with h | ⟨rb, h1, h2, h3⟩
  · exact .inl h
  · refine .inr ⟨rb, h1, h2, ?_⟩
    rw [heap_alloc_old _ _ (Array.getElem?_eq_some_iff.1 h3).1]
    exact h3

theorem Filled.alloc {wr : World} {K n k : Nat} {pub priv : Nat → ByteArray} {rc : Nat → Nat} (h : Filled wr K n k pub priv rc) (o : Obj) : Filled (wr.alloc o) K n k pub priv rc := by
  obtain ⟨arr, h1, h2, h3⟩ := h
  refine ⟨arr, ?_, h2, fun j hj => ?_⟩
  · have hlt := (Array.getElem?_eq_some_iff.1 h1).1
    show (wr.heap.push o)[K]? = _
    rw [Array.getElem?_push, if_neg (by omega)]
    exact h1
  · obtain ⟨g1, g2, r, g3, g4⟩ := h3 j hj
    exact ⟨g1, g2, r, g3, g4.alloc o⟩

theorem Rel.alloc {w wr : World} {n k km : Nat} {pub priv : Nat → ByteArray} {rc : Nat → Nat} (h : Rel w wr n k km pub priv rc) (o : Obj) : Rel w (wr.alloc o) n k km pub priv rc :=
  ⟨h.map.alloc o, h.keys.alloc o, h.bel.alloc h.bel.size o⟩

theorem Filled.lt {wr : World} {K n k : Nat} {pub priv : Nat → ByteArray} {rc : Nat → Nat} (h : Filled wr K n k pub priv rc) : K < wr.heap.size := by
  obtain ⟨arr, h1, h2, h3⟩ := h
  exact (Array.getElem?_eq_some_iff.1 h1).1

theorem RoleOk.made {w wr : World} {n k km : Nat} {pub priv : Nat → ByteArray} {rc : Nat → Nat} (h : Rel w wr n k km pub priv rc) (j c : Nat) :
    RoleOk (wr.alloc (.cells (madeCells zRole (c * 3)) 61)) w.heap.size j c (some ⟨wr.heap.size, 0, none⟩) := by
  have := h.map.lt
  exact .inr ⟨_, rfl, by omega, heap_alloc_new _ _⟩

/-- A cell of the keys is written. -/
theorem RoleOk.setKey {wr : World} {K j c : Nat} {r : Option Addr} (h : RoleOk wr K j c r) (o : Nat) (v : Value) : RoleOk (wr.setCell ⟨K, o, none⟩ v) K j c r := by
  rcases h with h | ⟨rb, h1, h2, h3⟩
  · exact .inl h
  · refine .inr ⟨rb, h1, h2, ?_⟩
    rw [RowKit.Below.heap_setCell _ _ _ _ (by show rb ≠ K; omega)]
    exact h3

theorem heap_setKey {wr : World} {K : Nat} {arr : Array Value} (h : wr.heap[K]? = some (.cells arr 28 (0, 0))) (o : Nat) (v : Value) (ho : o < arr.size) : (wr.setCell ⟨K, o, none⟩ v).heap[K]? = some (.cells (arr.setIfInBounds o v) 28 (0, 0)) := by
  have hlt := (Array.getElem?_eq_some_iff.1 h).1
  have h' : wr.heap[K] = .cells arr 28 (0, 0) := by simpa [Array.getElem?_eq_getElem hlt] using h
  show (wr.heap.modify K _)[K]? = _
  rw [Array.getElem?_eq_getElem (by simpa using hlt), Array.getElem_modify_self, h']
  rfl

theorem Rel.stored {w wr : World} {n k km : Nat} {pub priv : Nat → ByteArray} {rc : Nat → Nat} (h : Rel w wr n k km pub priv rc) (hk : k < n) {r : Option Addr} (hr : RoleOk wr w.heap.size k (rc k) r) {p q : ByteArray} {c : Nat} (hp : pub k = p) (hq : priv k = q) (hc : rc k = c) :
    Rel w (((wr.setCell ⟨w.heap.size, k * 3, none⟩ (.string p)).setCell ⟨w.heap.size, k * 3 + 1, none⟩ (.string q)).setCell ⟨w.heap.size, k * 3 + 2, none⟩ (.slice r c c)) n (k + 1) km pub priv rc := by
  subst hp hq hc
  obtain ⟨hm, ⟨arr, hK, hsz, hfill⟩, hb⟩ := h
  refine ⟨((hm.setCell (by simp) _).setCell (by simp) _).setCell (by simp) _, ⟨_, heap_setKey (heap_setKey (heap_setKey hK _ _ (by omega)) _ _ (by simp; omega)) _ _ (by simp; omega), by simpa using hsz, ?_⟩, ?_⟩
  · intro j hj
    by_cases hjk : j = k
    · subst hjk
      refine ⟨?_, ?_, r, ?_, ((hr.setKey _ _).setKey _ _).setKey _ _⟩
      · rw [Array.getElem?_setIfInBounds_ne (by omega), Array.getElem?_setIfInBounds_ne (by omega), Array.getElem?_setIfInBounds_self_of_lt (by omega)]
      · rw [Array.getElem?_setIfInBounds_ne (by omega), Array.getElem?_setIfInBounds_self_of_lt (by simp; omega)]
      · rw [Array.getElem?_setIfInBounds_self_of_lt (by simp; omega)]
    · obtain ⟨g1, g2, r', g3, g4⟩ := hfill j (by omega)
      refine ⟨?_, ?_, r', ?_, ((g4.setKey _ _).setKey _ _).setKey _ _⟩
      · rw [Array.getElem?_setIfInBounds_ne (by omega), Array.getElem?_setIfInBounds_ne (by omega), Array.getElem?_setIfInBounds_ne (by omega)]; exact g1
      · rw [Array.getElem?_setIfInBounds_ne (by omega), Array.getElem?_setIfInBounds_ne (by omega), Array.getElem?_setIfInBounds_ne (by omega)]; exact g2
      · rw [Array.getElem?_setIfInBounds_ne (by omega), Array.getElem?_setIfInBounds_ne (by omega), Array.getElem?_setIfInBounds_ne (by omega)]; exact g3
  · exact ((hb.setCell (by exact Nat.le_refl _) _).setCell (by exact Nat.le_refl _) _).setCell (by exact Nat.le_refl _) _

theorem Rel.put {w wr w1 : World} {n k km : Nat} {pub priv : Nat → ByteArray} {rc : Nat → Nat} (h : Rel w wr n k km pub priv rc) (hg : wr.grownBy w1 (some (w.heap.size + 1)))
    (ho : w1.ownsMap Yba.prog 9 (plainElem Yba.prog 3) (w.heap.size + 1) (km + 1) ((Idx pub km).put (.string (pub km).data.toList) (.lit (.int .i64 km)))) : Rel w w1 n k (km + 1) pub priv rc := by
  obtain ⟨hm, ⟨arr, hK, hsz, hfill⟩, hb⟩ := h
  have hlt := (Array.getElem?_eq_some_iff.1 hK).1
  refine ⟨ho, ⟨arr, (hg.block _ hlt (by simp)).trans hK, hsz, fun j hj => ?_⟩, hb.grown hg hb.size (fun j hj => by cases hj; omega)⟩
  obtain ⟨g1, g2, r, g3, g4⟩ := hfill j hj
  refine ⟨g1, g2, r, g3, ?_⟩
  rcases g4 with h | ⟨rb, h1, h2, h3⟩
  · exact .inl h
  · exact .inr ⟨rb, h1, h2, (hg.block rb (Array.getElem?_eq_some_iff.1 h3).1 (by simp; omega)).trans h3⟩

theorem Strs.at {w : World} {a : Option Addr} {n : Nat} {f : Nat → ByteArray} (h : Strs w a n f) {j : Nat} (hj : j < n) {wr : World} (hb : Below w.heap.size w wr) :
    ∃ b off, a = some ⟨b, off, none⟩ ∧ wr.cell? ⟨b, off + j, none⟩ = some (.string (f j)) ∧ (f j).size ≤ maxLen := by
  obtain ⟨b, off, h1, h2, h3⟩ := h (by omega)
  exact ⟨b, off, h1, (hb.cell (by exact h2)).trans (h3 j hj).1, (h3 j hj).2⟩

theorem Byts.at {w : World} {a : Option Addr} {n : Nat} {f : Nat → Nat} (h : Byts w a n f) {j : Nat} (hj : j < n) {wr : World} (hb : Below w.heap.size w wr) :
    ∃ b off, a = some ⟨b, off, none⟩ ∧ wr.cell? ⟨b, off + j, none⟩ = some (.int .u8 (f j)) ∧ f j < 256 := by
  obtain ⟨b, off, h1, h2, h3⟩ := h (by omega)
  exact ⟨b, off, h1, (hb.cell (by exact h2)).trans (h3 j hj).1, (h3 j hj).2⟩

theorem Rel.three {w wr : World} {n k km j : Nat} {pub priv : Nat → ByteArray} {rc : Nat → Nat} (h : Rel w wr n k km pub priv rc) (hj : j < n) :
    ∃ x0 x1 x2, wr.cell? ⟨w.heap.size, j * 3, none⟩ = some x0 ∧ wr.cell? ⟨w.heap.size, j * 3 + 1, none⟩ = some x1 ∧ wr.cell? ⟨w.heap.size, j * 3 + 2, none⟩ = some x2 ∧
      wr.frozen? ⟨w.heap.size, j * 3, none⟩ = false ∧ wr.frozen? ⟨w.heap.size, j * 3 + 1, none⟩ = false ∧ wr.frozen? ⟨w.heap.size, j * 3 + 2, none⟩ = false := by
  obtain ⟨arr, hK, hsz, _⟩ := h.keys
  refine ⟨arr[j * 3]'(by omega), arr[j * 3 + 1]'(by omega), arr[j * 3 + 2]'(by omega), ?_, ?_, ?_, ?_, ?_, ?_⟩
  · rw [cell_of_row _ _ _ _ _ _ hK, Array.getElem?_eq_getElem]
  · rw [cell_of_row _ _ _ _ _ _ hK, Array.getElem?_eq_getElem]
  · rw [cell_of_row _ _ _ _ _ _ hK, Array.getElem?_eq_getElem]
  · simp [World.frozen?, hK]
  · simp [World.frozen?, hK]
  · simp [World.frozen?, hK]

theorem wf_small (k : Nat) (h : k < 2000) : (Lit.int .i64 (k : Int)).wf = true := by
  have : wrap64 (k : Int) = k := by unfold wrap64; omega
  rw [← this]
  exact wrap64_wf _

/-- The store's cells. -/
def storeRow (K n m0 m1 m2 m3 m5 : Nat) : Array Value :=
  #[.int .i32 0, .int .u32 0, .int .u32 0, .int .u32 0, .int .i32 0, .int .i32 0, .slice none 0 0, .slice none 0 0, .slice none 0 0, .slice none 0 0, .slice none 0 0,
    .slice (some ⟨K, 0, none⟩) n n, .slice none 0 0, .string { data := #[] }, .map (some m0), .map (some m1), .map (some m2), .map (some m3), .map (some (K + 1)), .map (some m5), .map none, .map none]

def Built (w : World) (n : Nat) (pub priv : Nat → ByteArray) (rc : Nat → Nat) (e : Ending) (w' : World) : Prop :=
  ∃ w0 m0 m1 m2 m3 m5, Rel w w0 n n n pub priv rc ∧ e = .returned (.pointer (some ⟨w0.heap.size, 0, none⟩)) ∧ w' = w0.alloc (.cells (storeRow w.heap.size n m0 m1 m2 m3 m5) 58)

set_option maxRecDepth 100000 in
set_option maxHeartbeats 1000000 in
theorem build_any (a0 a1 a2 : Option Addr) (n np nc c0 c1 c2 : Nat) (pub pr : Nat → ByteArray) (cn : Nat → Nat) (w : World) (hn : n ≤ 1024)
    (h0 : Strs w a0 n pub) (h1 : Strs w a1 np pr) (h2 : Byts w a2 nc cn) :
    Calls Yba.prog 4 #[.slice a0 n c0, .slice a1 np c1, .slice a2 nc c2] w fun e w' => Built w n pub (privOf pr np) (cntOf cn nc) e w' := by
  have hmm := @run_makeMap Yba.prog
  have hmk := make_keys n hn
  go_enter Yba.func4, Yba.ntmps4
  go_wp2
  clear hmk
  go_loopg [9] n (fun g i wr => ∃ k : Nat, k ≤ n ∧ g = n - k ∧ i = .int .i64 k ∧ Rel w wr n k k pub (privOf pr np) (cntOf cn nc))
  case atStart => exact ⟨0, Nat.zero_le _, rfl, rfl, Rel.start _ _ _ _ _⟩
  case round =>
    obtain ⟨k, hk, rfl, rfl, hrel⟩ := hrel
    by_cases hlt : k < n
    · have hlt' : (k : Int) < (n : Int) := by omega
      go_upto_if 26 with fail
      go_cut [10] from 17 to 65 (fun s10 wx => s10 = .string (privOf pr np k) ∧ wr = wx)
      case first =>
        by_cases hp : k < np
        · have hp' : (k : Int) < (np : Int) := by omega
          obtain ⟨b, off, ha, hc, _⟩ := h1.at hp hrel.bel
          subst ha
          go_wp2
          go_meet
          exact ⟨by simp [privOf, hp], rfl⟩
        · have hp' : ¬ (k : Int) < (np : Int) := by omega
          go_wp2
          go_meet
          exact ⟨by simp [privOf, hp]; rfl, rfl⟩
      case rest =>
        obtain ⟨rfl, rfl⟩ := hcut
        generalize hpv : privOf pr np k = pv
        have HPV : Hid (privOf pr np k = pv) := hpv
        clear hpv
        go_upto_if 34 with fail
        go_cut [11] from 17 to 65 (fun s11 wx => s11 = .int .i64 (cntOf cn nc k) ∧ wr = wx)
        case first =>
          by_cases hp : k < nc
          · have hp' : (k : Int) < (nc : Int) := by omega
            obtain ⟨b, off, ha, hc, h256⟩ := h2.at hp hrel.bel
            subst ha
            go_wp2
            go_meet
            exact ⟨by simp [cntOf, hp], rfl⟩
          · have hp' : ¬ (k : Int) < (nc : Int) := by omega
            go_wp2
            go_meet
            exact ⟨by simp [cntOf, hp], rfl⟩
        case rest =>
          obtain ⟨rfl, rfl⟩ := hcut
          generalize hcv : cntOf cn nc k = c
          have HCV : Hid (cntOf cn nc k = c) := hcv
          have hc8 : c < 8 := by rw [← hcv]; unfold cntOf; split <;> omega
          clear hcv
          have hmr := make_roles c (by omega)
          go_upto_region 13 with fail
          go_cut [47] from 17 to 65 (fun s47 wx => s47 = .bool (decide (0 < c) || ((k : Int) % 2 == 1)) ∧ wr = wx)
          case first =>
            by_cases hp : 0 < c
            · have hp' : (0 : Int) < (c : Int) := by omega
              go_wp2
              go_meet
              exact ⟨by simp [hp], rfl⟩
            · obtain rfl : c = 0 := by omega
              go_wp2
              go_meet
              exact ⟨by simp, rfl⟩
          case rest =>
          obtain ⟨rfl, rfl⟩ := hcut
          generalize hbb : (decide (0 < c) || ((k : Int) % 2 == 1)) = bb
          have HBB : Hid ((decide (0 < c) || ((k : Int) % 2 == 1)) = bb) := hbb
          clear hbb
          go_upto_if 47 with fail
          go_cut [12] from 17 to 65 (fun s12 wx => ∃ r, s12 = .slice r c c ∧ RoleOk wx w.heap.size k c r ∧ Rel w wx n k k pub (privOf pr np) (cntOf cn nc))
          case first =>
            cases bb
            · go_wp2
              go_meet
              have h := HBB.out
              simp at h
              obtain rfl : c = 0 := by omega
              exact ⟨_, rfl, .inl ⟨rfl, rfl, by have h2 := h.2; omega⟩, hrel⟩
            · go_wp2
              go_meet
              exact ⟨_, rfl, RoleOk.made hrel _ _, hrel.alloc _⟩
          case rest =>
            obtain ⟨r, rfl, hro, hrel⟩ := hcut
            obtain ⟨b, off, ha, hc, hkl⟩ := h0.at hlt hrel.bel
            subst ha
            go_upto_region 15 with fail
            go_cut [] from 17 to 65 (fun wx => Rel w wx n (k + 1) k pub (privOf pr np) (cntOf cn nc))
            case first =>
              obtain ⟨x0, x1, x2, e0, e1, e2, f0, f1, f2⟩ := hrel.three hlt
              go_wp2
              go_meet
              exact hrel.stored hlt (by rw [HCV.out]; exact hro) rfl HPV.out HCV.out
            case rest =>
              clear hrel hro hc
              obtain ⟨b', off', ha, hc, _⟩ := h0.at hlt hcut.bel
              obtain ⟨rfl, rfl⟩ : b = b' ∧ off = off' := by simpa using ha
              have hkey := keyOf_string_mk (P := Yba.prog) Yba.underlying9 hkl
              have hown := hcut.map
              go_wp2_with (at_mapUpdate; refine wpList_mapUpdate_own _ rfl _ _ _ 52 rfl 9 3 law9 Yba.underlying52 _ (w.heap.size + 1) k _ rfl hown (by unfold maxLen; omega) _ _ _ rfl rfl hkey _ [] (plainElem_int Yba.underlying3 (wf_small k (by omega))) ?_; intro w1 hown1 hgrow1)
              go_roundg (n - (k + 1))
              case measure => omega
              case rel => exact ⟨k + 1, by omega, rfl, by go_num, hcut.put hgrow1 hown1⟩
    · obtain rfl : k = n := by omega
      have hnk : ¬ (k : Int) < (k : Int) := by omega
      go_wp2
      go_ret
      exact ⟨_, _, _, _, _, _, (((((hrel.alloc _).alloc _).alloc _).alloc _).alloc _), by simp, rfl⟩

end Go.Proofs.Ybulkbmfe
