import Derived.Test.YbulkblxcFmtAsFacts
namespace Go.Proofs.YbulkblxcFmt
open Go.RowKit Go.Extern.Stop Go.Stop Go.Extern
set_option linter.unusedVariables false

set_option maxHeartbeats 4000000 in
theorem as_hit (e t : Addr) (old : Value) (w : World) (hg : w.cell? ⟨6, 0, none⟩ = some (.iface 134 (.agg #[.pointer (some ⟨9, 48, none⟩)]))) (ht0 : w.cell? t = some old) (hf0 : w.frozen? t = false) :
    Calls Ybaf.prog 32 #[.iface 99 (.pointer (some e)), .iface 101 (.pointer (some t))] w fun ev w' => ev = .returned (.bool true) ∧ w' = ((((w.alloc (.cells #[.pointer (some t)] 101)).alloc (.cells #[.pointer (some ⟨9, 101, none⟩), .pointer (some ⟨w.heap.size, 0, none⟩), .int .u64 150] 116)).alloc (.cells #[.pointer (some ⟨9, 101, none⟩), .pointer (some ⟨w.heap.size, 0, none⟩), .int .u64 150] 116)).alloc (.cells #[.pointer (some e)] 99)).setCell t (.pointer (some e)) := by
  have h6 := @run_callFunc_extern Ybaf.prog 37 _ (fun args => ReflectliteValue.unpack (args.getD 0 (.tuple #[]))) Ybaf.func37 (by kernel_rfl) (by kernel_rfl) (by kernel_rfl) (by kernel_rfl)
  have h7 := @run_callFunc_extern Ybaf.prog 38 _ (ReflectliteValue.methodAny (ReflectliteValue.valueError "reflectlite.Value.Type" 0) (fun t _ _ _ => ReflectliteType.toType t)) Ybaf.func38 (by kernel_rfl) (by kernel_rfl) (by kernel_rfl) (by kernel_rfl)
  have h8 := @run_callFunc_extern Ybaf.prog 39 _ (ReflectliteValue.method (ReflectliteValue.valueError "reflectlite.Value.IsNil" 0) ReflectliteValue.isNil) Ybaf.func39 (by kernel_rfl) (by kernel_rfl) (by kernel_rfl) (by kernel_rfl)
  have h27 := @run_callFunc_extern Ybaf.prog 63 _ (ReflectliteType.abiMethod fun t => do pure (.int .u8 (← Rtype.kind t))) Ybaf.func63 (by kernel_rfl) (by kernel_rfl) (by kernel_rfl) (by kernel_rfl)
  have h37 := @run_callFunc_extern Ybaf.prog 86 _ (ReflectliteType.method ReflectliteType.elem) Ybaf.func86 (by kernel_rfl) (by kernel_rfl) (by kernel_rfl) (by kernel_rfl)
  have h38 := @run_callFunc_extern Ybaf.prog 87 _ (ReflectliteType.relation "Implements" ReflectliteType.implements_) Ybaf.func87 (by kernel_rfl) (by kernel_rfl) (by kernel_rfl) (by kernel_rfl)
  have h10 := @run_callFunc_extern Ybaf.prog 43 _ ReflectliteType.typeOf Ybaf.func43 (by kernel_rfl) (by kernel_rfl) (by kernel_rfl) (by kernel_rfl)
  have h35 := @run_callFunc_extern Ybaf.prog 84 _ (ReflectliteType.relation "AssignableTo" ReflectliteType.assignableTo) Ybaf.func84 (by kernel_rfl) (by kernel_rfl) (by kernel_rfl) (by kernel_rfl)
  have h11 := @run_callFunc_extern Ybaf.prog 44 _ (ReflectliteValue.method (ReflectliteValue.valueError "reflectlite.Value.Elem" 0) ReflectliteValue.elem) Ybaf.func44 (by kernel_rfl) (by kernel_rfl) (by kernel_rfl) (by kernel_rfl)
  have h12 := @run_callFunc_extern Ybaf.prog 45 _ ReflectliteValue.set Ybaf.func45 (by kernel_rfl) (by kernel_rfl) (by kernel_rfl) (by kernel_rfl)
  have tO := Ybaf.typeOf99
  have mA := Ybaf.methodAssignableTo
  have a25 := Ybaf.assignable99
  have v25 := Ybaf.valueOf99
  have f6 := Ybaf.valueOf101
  have f7 := Ybaf.type101
  have mK := Ybaf.methodKind
  have mE := Ybaf.methodElem
  have mI := Ybaf.methodImplements
  have k27 := Ybaf.kind101
  have k25 := Ybaf.kind99
  have e27 := Ybaf.elem101
  have i25 := Ybaf.implements99
  have n8 := Ybaf.isNil101 ⟨w.heap.size, 0, none⟩ t ((w.alloc (.cells #[.pointer (some t)] 101)).alloc (.cells #[.pointer (some ⟨9, 101, none⟩), .pointer (some ⟨w.heap.size, 0, none⟩), .int .u64 150] 116)) (by simp)
  have hlt : 6 < w.heap.size := World.block_lt_of_cell? w ⟨6, 0, none⟩ hg
  have hg2 : ((w.alloc (.cells #[.pointer (some t)] 101)).alloc (.cells #[.pointer (some ⟨9, 101, none⟩), .pointer (some ⟨w.heap.size, 0, none⟩), .int .u64 150] 116)).cell? ⟨6, 0, none⟩ = some (.iface 134 (.agg #[.pointer (some ⟨9, 48, none⟩)])) := by
    rw [World.cell?_alloc_lt _ _ ⟨6, 0, none⟩ (by simp; omega), World.cell?_alloc_lt _ _ ⟨6, 0, none⟩ hlt]; exact hg
  have htl : t.block < w.heap.size := by
    rcases Nat.lt_or_ge t.block w.heap.size with h | h
    · exact h
    · simp [World.cell?, Array.getElem?_eq_none h] at ht0
  have el := Ybaf.elemV101 ⟨w.heap.size, 0, none⟩ t (((w.alloc (.cells #[.pointer (some t)] 101)).alloc (.cells #[.pointer (some ⟨9, 101, none⟩), .pointer (some ⟨w.heap.size, 0, none⟩), .int .u64 150] 116)).alloc (.cells #[.pointer (some ⟨9, 101, none⟩), .pointer (some ⟨w.heap.size, 0, none⟩), .int .u64 150] 116)) (by rw [World.cell?_alloc_lt _ _ ⟨w.heap.size, 0, none⟩ (by simp; omega)]; simp)
  have st := Ybaf.set99 t ⟨w.heap.size + 1 + 1 + 1, 0, none⟩ e old ((((w.alloc (.cells #[.pointer (some t)] 101)).alloc (.cells #[.pointer (some ⟨9, 101, none⟩), .pointer (some ⟨w.heap.size, 0, none⟩), .int .u64 150] 116)).alloc (.cells #[.pointer (some ⟨9, 101, none⟩), .pointer (some ⟨w.heap.size, 0, none⟩), .int .u64 150] 116)).alloc (.cells #[.pointer (some e)] 99))
    (by rw [World.cell?_alloc_at _ _ _ _ (by simp)]; rfl)
    (by rw [World.cell?_alloc_lt _ _ t (by simp; omega), World.cell?_alloc_lt _ _ t (by simp; omega), World.cell?_alloc_lt _ _ t (by simp; omega), World.cell?_alloc_lt _ _ t htl]; exact ht0)
    (by rw [World.frozen?_alloc_old _ _ t (by simp; omega), World.frozen?_alloc_old _ _ t (by simp; omega), World.frozen?_alloc_old _ _ t (by simp; omega), World.frozen?_alloc_old _ _ t (Nat.ne_of_lt htl)]; exact hf0)
  go_enter Ybaf.func32, Ybaf.ntmps32
  go_wp2
  refine wp_loop_rounds 1 ?_
  rw [rounds_succ]
  go_wp2
  go_ret
  exact ⟨rfl, rfl⟩

/-- The handle of the type error in errors.errorType. -/
def ErrT (w : World) : Prop := w.cell? ⟨6, 0, none⟩ = some (.iface 134 (.agg #[.pointer (some ⟨9, 48, none⟩)]))

theorem ErrT.below {B : Nat} {w w' : World} (h : ErrT w) (hb : Below B w w') (hB : 6 < B) : ErrT w' := (hb.cell (p := ⟨6, 0, none⟩) hB).trans h

set_option maxHeartbeats 400000 in
theorem isOut_nil (w : World) :
    Calls Ybaf.prog 16 #[.nilIface] w fun e w' => e = .returned (.bool false) ∧ Below w.heap.size w w' := by
  go_enter Ybaf.func16, Ybaf.ntmps16
  go_wp2_with (go_at_call 32; refine (as_nil _ _).mono ?_; rintro e w' ⟨rfl, rfl⟩)
  go_ret
  exact ⟨rfl, (Below.refl _ _).alloc (Nat.le_refl _) _⟩

set_option maxHeartbeats 400000 in
theorem isOut_hit (e : Addr) (w : World) (hg : ErrT w) :
    Calls Ybaf.prog 16 #[.iface 99 (.pointer (some e))] w fun ev w' => ev = .returned (.bool true) ∧ Below w.heap.size w w' := by
  have hlt : 6 < w.heap.size := World.block_lt_of_cell? w ⟨6, 0, none⟩ hg
  go_enter Ybaf.func16, Ybaf.ntmps16
  go_wp2_with fail
  refine (as_hit e ⟨w.heap.size, 0, none⟩ (.pointer none) _ (cellOld _ hg) (World.cell?_alloc_at _ _ _ 0 rfl) (by go_simp)).mono ?_
  rintro ev w' ⟨rfl, hw⟩
  have hb : Below w.heap.size w w' := by
    rw [hw]
    refine Below.setCell (p := ⟨w.heap.size, 0, none⟩) ?_ (Nat.le_refl _) _
    exact (((((Below.refl _ _).alloc (Nat.le_refl _) _).alloc (by simp) _).alloc (by simp; omega) _).alloc (by simp; omega) _).alloc (by simp; omega) _
  clear hw
  go_wp2
  go_ret
  exact ⟨rfl, hb⟩

end Go.Proofs.YbulkblxcFmt
