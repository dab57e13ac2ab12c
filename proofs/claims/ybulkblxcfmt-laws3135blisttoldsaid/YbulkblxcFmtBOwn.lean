import Derived.Test.YbulkblxcFmtRead
import Derived.Laws.AppendOwn
import Derived.ArgAppend
namespace Go.Proofs.YbulkblxcFmt
open Go.RowKit
set_option linter.unusedVariables false

/-- The row in block g, of n elements (room for cap) of 'size' cells each: its first cells are xs. -/
structure OwnAt (w : World) (e size g n cap : Nat) (xs : List Value) : Prop where
  len : xs.length = n * size
  room : n ≤ cap
  max : cap ≤ maxLen
  row : ∃ cur : Array Value, w.heap[g]? = some (.cells cur e (0, 0)) ∧ cur.size = cap * size ∧ cur.toList.take (n * size) = xs

theorem OwnAt.lt {w : World} {e size g n cap : Nat} {xs : List Value} (h : OwnAt w e size g n cap xs) : g < w.heap.size := by
  obtain ⟨cur, h1, _⟩ := h.row
  exact (Array.getElem?_eq_some_iff.1 h1).1
theorem OwnAt.of_block {w w' : World} {e size g n cap : Nat} {xs : List Value} (h : OwnAt w e size g n cap xs) (hb : w'.heap[g]? = w.heap[g]?) : OwnAt w' e size g n cap xs := by
  obtain ⟨cur, h1, h2⟩ := h.row
  exact ⟨h.len, h.room, h.max, cur, hb.trans h1, h2⟩
theorem OwnAt.below {B : Nat} {w w' : World} {e size g n cap : Nat} {xs : List Value} (h : OwnAt w e size g n cap xs) (hb : Below B w w') (hg : g < B) : OwnAt w' e size g n cap xs := h.of_block (hb.block g hg)
theorem OwnAt.owns {w : World} {e size g n cap : Nat} {xs : List Value} (h : OwnAt w e size g n cap xs) : w.ownsRow 0 e size (.slice (some ⟨g, 0, none⟩) n cap) n xs := by
  obtain ⟨cur, h1, h2, h3⟩ := h.row
  exact ⟨h.len, .inr ⟨g, cap, cur, rfl, Nat.zero_le _, h1, h.room, h.max, h2, h3⟩⟩
theorem OwnAt.cell {w : World} {e size g n cap : Nat} {xs : List Value} (h : OwnAt w e size g n cap xs) (j : Nat) (u : Value) (hu : xs[j]? = some u) : w.cell? ⟨g, j, none⟩ = some u := by
  have := h.owns.cells (g := g) rfl j u hu
  have hadd : (⟨g, 0, none⟩ : Addr).add j = ⟨g, j, none⟩ := by unfold Addr.add; split <;> simp_all
  rw [hadd] at this
  exact this
/-- A new empty row. -/
theorem OwnAt.new (w : World) (e size : Nat) : OwnAt (w.alloc (.cells #[] e)) e size w.heap.size 0 0 [] :=
  ⟨by simp, Nat.le_refl _, Nat.zero_le _, #[], heap_alloc_new w _, by simp, by simp⟩

/-- append of one element to a row of the call's own: the row itself where there is room, else a new one. -/
theorem own_append (t ty e : TypeId) (size bytes : Nat) (i : TypeInfo) (z : Value) (ht : Ybaf.prog.underlying t = some (.slice e)) (hi : Ybaf.prog.info? e = some i) (hz : i.zero = some z)
    (hsize : i.size = size) (hby : i.bytes = bytes) (hzs : z.cells.size = size) (hsz : 0 < size) (w : World) (g n cap : Nat) (xs : List Value) (hown : OwnAt w e size g n cap xs)
    (a : Nat) (news : List Value) (hl : news.length = size) (hnews : ∀ j u, news[j]? = some u → w.cell? ⟨a, j, none⟩ = some u) (h1 : ∀ u ∈ news, u.oneCell' = true) (hn : n ≤ 1000) (hbb : bytes ≤ 1000) :
    ∃ g' cap' w', (Builtin.append_ #[t, t] ty #[.slice (some ⟨g, 0, none⟩) n cap, .slice (some ⟨a, 0, none⟩) 1 1]).run Ybaf.prog w = .ok (.slice (some ⟨g', 0, none⟩) (n + 1) cap') w' ∧
      OwnAt w' e size g' (n + 1) cap' (xs ++ news) ∧ w.grownBy w' (some g) ∧ (g' = g ∨ w.heap.size ≤ g') := by
  have hadd : ∀ j, (⟨a, 0, none⟩ : Addr).add j = ⟨a, j, none⟩ := by intro j; unfold Addr.add; split <;> simp_all
  have hnews' : ∀ j u, news[j]? = some u → w.cell? ((⟨a, 0, none⟩ : Addr).add j) = some u := fun j u hu => by rw [hadd]; exact hnews j u hu
  have h63 : n + 1 ≤ maxLen := by unfold maxLen; omega
  have hbytes : (n + 1) * bytes ≤ 140737488355328 := by
    have : (n + 1) * bytes ≤ 1001 * 1000 := Nat.mul_le_mul (by omega) hbb
    omega
  by_cases hroom : n + 1 ≤ cap
  · obtain ⟨cur, hg, hcs, htake⟩ := hown.row
    subst hsize
    have hfit : n * i.size + news.length ≤ cur.size := by
      rw [hl, hcs]
      have := Nat.mul_le_mul_right i.size hroom
      rw [Nat.add_mul, Nat.one_mul] at this
      exact this
    have hr := run_append_room (P := Ybaf.prog) w t ty e i ht hi g n cap cur hg ⟨a, 0, none⟩ 1 1 news (by rw [hl, Nat.one_mul]) hnews' h1 hroom hfit
    refine ⟨g, cap, _, hr, ⟨?_, hroom, hown.max, _, setRow_heap w g cur _ e _ hg, ?_, ?_⟩, ⟨rfl, rfl, rfl, by simp, fun k _ hk => setRow_other w g k _ (fun e => hk (by simp [e]))⟩, .inl rfl⟩
    · rw [List.length_append, hown.len, hl, Nat.add_mul, Nat.one_mul]
    · simp only [List.size_toArray, List.length_append, List.length_take, List.length_drop, Array.length_toList]
      omega
    · rw [htake]
      have : (xs ++ news).length = (n + 1) * i.size := by rw [List.length_append, hown.len, hl, Nat.add_mul, Nat.one_mul]
      rw [← this]
      exact List.take_left
  · obtain ⟨v', w', hr, ho, hgr⟩ := run_append_arg_grows (P := Ybaf.prog) w t ty e i z size bytes ht hi hz hsize hby hzs hsz ⟨g, 0, none⟩ n cap xs hown.len (hown.owns.cells (g := g) rfl) ⟨a, 0, none⟩ 1 1 news (by rw [hl, Nat.one_mul]) hnews' (by omega) h63 hbytes
    rcases ho.2 with ⟨_, h0⟩ | ⟨g', cap', cur', hv, hbg, hh, hnc, hcm, hcs, htk⟩
    · omega
    · subst hv
      exact ⟨g', cap', w', hr, ⟨ho.1, hnc, hcm, cur', hh, hcs, htk⟩, ⟨hgr.os, hgr.tape, hgr.output, hgr.size, fun k hk _ => hgr.block k hk (by simp)⟩, .inr hbg⟩

end Go.Proofs.YbulkblxcFmt
