import Derived.Test.YbulkblxcFmtErr
import Derived.LaidEql
namespace Go.Proofs.YbulkblxcFmt
open Go.RowKit Go.Extern.Stop Go.Stop Go.Extern
set_option linter.unusedVariables false

theorem info151 : (Ybaf.prog.info? 151).map (·.comparable) = some true := by kernel_rfl
theorem info153 : (Ybaf.prog.info? 153).map (·.size) = some 1 := by kernel_rfl

/-- Two errors of errors.New's make at two addresses are two. -/
theorem err_ne (w : World) (a b : Addr) {ca cb : Array Value} {ta tb : TypeId} (hne : a ≠ b) (ha : w.heap[a.block]? = some (.cells ca ta (0, 0))) (hb : w.heap[b.block]? = some (.cells cb tb (0, 0))) :
    (binOp .eql 48 (.iface 151 (.pointer (some a))) (.iface 151 (.pointer (some b)))).run Ybaf.prog w = .ok (.bool false) w := by
  cases h1 : Ybaf.prog.info? 151 with
  | none => have := info151; simp [h1] at this
  | some i =>
    cases h2 : Ybaf.prog.info? 153 with
    | none => have := info153; simp [h2] at this
    | some j =>
      have hc : i.comparable = true := by have := info151; simpa [h1] using this
      have hs : j.size = 1 := by have := info153; simpa [h2] using this
      exact run_eql_iface_ptr_other w Ybaf.underlying48 Ybaf.underlying151 h1 hc h2 (by rw [hs]; decide) hne ha hb

/-- io.EOF as the program's text lays it. -/
structure EofAt (w : World) (e0 : Addr) : Prop where
  var : w.cell? ⟨7, 0, none⟩ = some (.iface 151 (.pointer (some e0)))
  row : ∃ c t, w.heap[e0.block]? = some (.cells c t (0, 0))

def Shorted (F : Interp) (n off : Int) (a : Addr) (w : World) (e : Ending) (w' : World) : Prop :=
  ∃ txt, e = .returned (.iface 150 (.pointer (some ⟨w.heap.size + 1, 0, none⟩))) ∧
    w' = ((w.alloc (.cells #[.iface 24 (.int .u64 n), .iface 24 (.int .u64 off), .iface 151 (.pointer (some a))] 20)).alloc (.cells #[.string txt, .iface 151 (.pointer (some a))] 177)).drew

set_option maxRecDepth 100000 in
set_option maxHeartbeats 800000 in
theorem short_err (F : Interp) (n off : Int) (ab : Nat) (t : ByteArray) (e0 : Addr) (w : World) (hF : F.answers w.tape) (hE : EofAt w e0) (hne : (⟨ab, 0, none⟩ : Addr) ≠ e0) {ca : Array Value} {ta : TypeId} (ha : w.heap[ab]? = some (.cells ca ta (0, 0))) (hs : w.cell? ⟨ab, 0, none⟩ = some (.string t)) :
    Calls Ybaf.prog 42 #[.int .u64 off, .int .u64 n, .iface 151 (.pointer (some ⟨ab, 0, none⟩))] w fun e w' => Shorted F n off ⟨ab, 0, none⟩ w e w' := by
  obtain ⟨hv, c, tt, hr⟩ := hE
  have heq := err_ne w _ _ hne ha hr
  go_enter Ybaf.func42, Ybaf.ntmps42
  go_wp2_with fail
  have hlt : ab < w.heap.size := (Array.getElem?_eq_some_iff.1 ha).1
  refine (errorf_w F n off t ⟨ab, 0, none⟩ w.heap.size _ (by exact hF) (by rw [World.cell?_alloc_new]; rfl) (by rw [World.cell?_alloc_new]; rfl) (by rw [World.cell?_alloc_new]; rfl) (by rw [World.cell?_alloc_past _ _ _ hlt]; exact hs)).mono ?_
  rintro e w' ⟨rfl, rfl⟩
  go_wp2
  go_ret
  exact ⟨_, by simp, rfl⟩
end Go.Proofs.YbulkblxcFmt
