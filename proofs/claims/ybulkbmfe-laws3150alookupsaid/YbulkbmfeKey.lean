import Derived.Test.YbulkbmfeBuild
import Derived.Lib.SliceRun
namespace Go.Proofs.Ybulkbmfe
open Go.RowKit Go.WideMaps Go.Maps
set_option linter.unusedVariables false

set_option maxRecDepth 100000 in
theorem clone_nil (w : World) : Calls Yba.prog 8 #[.slice none 0 0] w fun e w' => e = .returned (.slice none 0 0) ∧ w' = w := by
  have heq := fun w a n c => Go.Lib.run_eql_slice_nil (P := Yba.prog) w 26 61 a n c 0 0 Yba.underlying26
  go_enter Yba.func8, Yba.ntmps8
  go_wp2
  go_ret
  exact ⟨rfl, rfl⟩

theorem replicate_get {j m : Nat} {u v : Value} (h : (List.replicate m v)[j]? = some u) : j < m ∧ u = v := by
  have hj := (List.getElem?_eq_some_iff.1 h).1
  rw [List.length_replicate] at hj
  rw [List.getElem?_replicate, if_pos hj] at h
  exact ⟨hj, (Option.some.inj h).symm⟩

def Cloned (w : World) (c : Nat) (e : Ending) (w' : World) : Prop :=
  ∃ g cap, e = .returned (.slice (some ⟨g, 0, none⟩) c cap) ∧ w.heap.size ≤ g ∧ (∃ cur, w'.heap[g]? = some (.cells cur 61 (0, 0))) ∧ Below w.heap.size w w'

set_option maxRecDepth 100000 in
theorem clone_some (rb c : Nat) (w : World) (hc : c < 8) (h : ∀ i, i < c * 3 → w.cell? ⟨rb, i, none⟩ = some (.string ByteArray.empty)) (hrb : rb < w.heap.size) :
    Calls Yba.prog 8 #[.slice (some ⟨rb, 0, none⟩) c c] w fun e w' => Cloned w c e w' := by
  obtain ⟨i0, hi, hz0, hz1, hz2⟩ := info_parts info61
  have heq := fun w a n c => Go.Lib.run_eql_slice_nil (P := Yba.prog) w 26 61 a n c 0 0 Yba.underlying26
  go_enter Yba.func8, Yba.ntmps8
  have hown0 : (w.alloc (.cells #[] 61)).ownsRow w.heap.size 61 3 (.slice (some ⟨w.heap.size, 0, none⟩) 0 0) 0 [] :=
    ⟨rfl, .inr ⟨w.heap.size, 0, #[], rfl, Nat.le_refl _, heap_alloc_new w _, Nat.le_refl _, Nat.zero_le _, rfl, rfl⟩⟩
  have hcells : ∀ (j : Nat) (u : Value), (List.replicate (c * 3) (Value.string ByteArray.empty))[j]? = some u → (w.alloc (.cells #[] 61)).cell? ((⟨rb, 0, none⟩ : Addr).add j) = some u := by
    intro j u hu
    obtain ⟨hj, rfl⟩ := replicate_get hu
    have : (⟨rb, 0, none⟩ : Addr).add j = ⟨rb, j, none⟩ := by unfold Addr.add; split <;> simp_all
    rw [this, World.cell?_alloc_past]
    · exact h j hj
    · exact hrb
  have hone : ∀ u ∈ List.replicate (c * 3) (Value.string ByteArray.empty), u.oneCell' = true := by
    intro u hu
    rw [List.eq_of_mem_replicate hu]
    rfl
  clear h
  go_wp2_with (at_builtin; refine wpList_append_own _ rfl (.tmp 5) (.tmp 6) 26 rfl w.heap.size 61 i0 _ 3 48 Yba.underlying26 hi hz0 hz1 hz2 rfl (by decide) _ 0 [] rfl hown0 ⟨rb, 0, none⟩ c c (List.replicate (c * 3) (.string ByteArray.empty)) rfl (by simp) hcells hone (by unfold maxLen; omega) (by omega) (by simp) ?_; intro v' w1 hown1 hgrow1 hnil)
  obtain ⟨hl, ⟨rfl, h0⟩ | ⟨g, cap, cur, rfl, hg, hcur, _⟩⟩ := hown1
  · have hh := (hnil.1 rfl).1
    cases hh
  · go_ret
    refine ⟨g, cap, by simp, hg, ⟨cur, hcur⟩, ((Below.refl _ _).alloc (Nat.le_refl _) _).grown hgrow1 (by simp) (fun j hj => ?_)⟩
    have hj' : some w.heap.size = some j := hj
    cases hj'
    exact Nat.le_refl _
end Go.Proofs.Ybulkbmfe
