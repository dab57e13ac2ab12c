import Derived.Test.YbulkblxcFmtShort
namespace Go.Proofs.YbulkblxcFmt
open Go.RowKit Go.Extern.Stop Go.Stop Go.Extern
set_option linter.unusedVariables false

theorem Ybaf.typeOf150 (v : Value) (w : World) : (ReflectliteType.typeOf #[.iface 150 v]).run Ybaf.prog w = .ok (.iface 134 (.agg #[.pointer (some ⟨9, 150, none⟩)])) w := by kernel_rfl
theorem Ybaf.typeOf151 (v : Value) (w : World) : (ReflectliteType.typeOf #[.iface 151 v]).run Ybaf.prog w = .ok (.iface 134 (.agg #[.pointer (some ⟨9, 151, none⟩)])) w := by kernel_rfl
theorem Ybaf.assignable150 (w : World) : (ReflectliteType.relation "AssignableTo" ReflectliteType.assignableTo #[.agg #[.pointer (some ⟨9, 150, none⟩)], .iface 134 (.agg #[.pointer (some ⟨9, 99, none⟩)])]).run Ybaf.prog w = .ok (.bool false) w := by kernel_rfl
theorem Ybaf.assignable151 (w : World) : (ReflectliteType.relation "AssignableTo" ReflectliteType.assignableTo #[.agg #[.pointer (some ⟨9, 151, none⟩)], .iface 134 (.agg #[.pointer (some ⟨9, 99, none⟩)])]).run Ybaf.prog w = .ok (.bool false) w := by kernel_rfl
theorem Ybaf.noAs150 (v : Value) (xT : TypeId) (w : World) : (Instr.typeAssert (.iface 150 v) xT 139 true).run Ybaf.prog w = .ok (.tuple #[.nilIface, .bool false]) w := run_typeAssert_lacksB Ybaf.underlying139 (by kernel_rfl) (by kernel_rfl) v xT w
theorem Ybaf.noAs151 (v : Value) (xT : TypeId) (w : World) : (Instr.typeAssert (.iface 151 v) xT 139 true).run Ybaf.prog w = .ok (.tuple #[.nilIface, .bool false]) w := run_typeAssert_lacksB Ybaf.underlying139 (by kernel_rfl) (by kernel_rfl) v xT w
theorem Ybaf.unwrap150 (v : Value) (xT : TypeId) (w : World) : (Instr.typeAssert (.iface 150 v) xT 142 true).run Ybaf.prog w = .ok (.tuple #[.iface 150 v, .bool true]) w := run_typeAssert_hasB Ybaf.underlying142 (by kernel_rfl) v xT w
theorem Ybaf.noUnwrap151 (v : Value) (xT : TypeId) (w : World) : (Instr.typeAssert (.iface 151 v) xT 142 true).run Ybaf.prog w = .ok (.tuple #[.nilIface, .bool false]) w := run_typeAssert_lacksB Ybaf.underlying142 (by kernel_rfl) (by kernel_rfl) v xT w
theorem Ybaf.noUnwraps151 (v : Value) (xT : TypeId) (w : World) : (Instr.typeAssert (.iface 151 v) xT 144 true).run Ybaf.prog w = .ok (.tuple #[.nilIface, .bool false]) w := run_typeAssert_lacksB Ybaf.underlying144 (by kernel_rfl) (by kernel_rfl) v xT w

theorem Ybaf.methodUnwrap (v : Value) (w : World) : (Go.method 289 150 v "Unwrap").run Ybaf.prog w = .ok (95, v) w := by kernel_rfl

theorem unwrap_any (p : Nat) (v : Value) (w : World) (hp : w.cell? ⟨p, 1, none⟩ = some v) (hi : IsIface v) :
    Calls Ybaf.prog 95 #[.pointer (some ⟨p, 0, none⟩)] w fun e w' => e = .returned v ∧ w' = w := by
  go_enter Ybaf.func95, Ybaf.ntmps95
  go_wp2
  go_ret
  exact ⟨rfl, rfl⟩

set_option maxRecDepth 100000 in
set_option maxHeartbeats 4000000 in
/-- errors.as at a wrapped error of errors.New's make, the target another type. -/
theorem as_loop (p ab : Nat) (tv : Value) (vs : Array Value) (w : World) (hp : w.cell? ⟨p, 1, none⟩ = some (.iface 151 (.pointer (some ⟨ab, 0, none⟩)))) (hvs : vs.size = 3) :
    Calls Ybaf.prog 40 #[.iface 150 (.pointer (some ⟨p, 0, none⟩)), tv, .agg vs, .iface 134 (.agg #[.pointer (some ⟨9, 99, none⟩)])] w fun ev w' => ev = .returned (.bool false) ∧ Below w.heap.size w w' := by
  have h10 := @run_callFunc_extern Ybaf.prog 43 _ ReflectliteType.typeOf Ybaf.func43 (by kernel_rfl) (by kernel_rfl) (by kernel_rfl) (by kernel_rfl)
  have h35 := @run_callFunc_extern Ybaf.prog 84 _ (ReflectliteType.relation "AssignableTo" ReflectliteType.assignableTo) Ybaf.func84 (by kernel_rfl) (by kernel_rfl) (by kernel_rfl) (by kernel_rfl)
  have tO := Ybaf.typeOf150
  have tO1 := Ybaf.typeOf151
  have mA := Ybaf.methodAssignableTo
  have a25 := Ybaf.assignable150
  have a26 := Ybaf.assignable151
  have n1 := Ybaf.noAs150
  have n2 := Ybaf.noAs151
  have n3 := Ybaf.unwrap150
  have n4 := Ybaf.noUnwrap151
  have n5 := Ybaf.noUnwraps151
  have mU := Ybaf.methodUnwrap
  have hltp : p < w.heap.size := World.block_lt_of_cell? w ⟨p, 1, none⟩ hp
  go_enter Ybaf.func40, Ybaf.ntmps40
  go_wp2
  refine wp_loop_rounds 2 ?_
  rw [rounds_succ]
  go_wp2
  rw [rounds_succ]
  go_wp2
  go_ret
  exact ⟨rfl, (Below.refl _ _).alloc (Nat.le_refl _) _⟩

set_option maxRecDepth 100000 in
set_option maxHeartbeats 4000000 in
theorem as_miss (p ab : Nat) (t : Addr) (w : World) (hg : w.cell? ⟨6, 0, none⟩ = some (.iface 134 (.agg #[.pointer (some ⟨9, 48, none⟩)])))
    (hp : w.cell? ⟨p, 1, none⟩ = some (.iface 151 (.pointer (some ⟨ab, 0, none⟩)))) :
    Calls Ybaf.prog 32 #[.iface 150 (.pointer (some ⟨p, 0, none⟩)), .iface 101 (.pointer (some t))] w fun ev w' => ev = .returned (.bool false) ∧ Below w.heap.size w w' := by
  have h6 := @run_callFunc_extern Ybaf.prog 37 _ (fun args => ReflectliteValue.unpack (args.getD 0 (.tuple #[]))) Ybaf.func37 (by kernel_rfl) (by kernel_rfl) (by kernel_rfl) (by kernel_rfl)
  have h7 := @run_callFunc_extern Ybaf.prog 38 _ (ReflectliteValue.methodAny (ReflectliteValue.valueError "reflectlite.Value.Type" 0) (fun t _ _ _ => ReflectliteType.toType t)) Ybaf.func38 (by kernel_rfl) (by kernel_rfl) (by kernel_rfl) (by kernel_rfl)
  have h8 := @run_callFunc_extern Ybaf.prog 39 _ (ReflectliteValue.method (ReflectliteValue.valueError "reflectlite.Value.IsNil" 0) ReflectliteValue.isNil) Ybaf.func39 (by kernel_rfl) (by kernel_rfl) (by kernel_rfl) (by kernel_rfl)
  have h27 := @run_callFunc_extern Ybaf.prog 63 _ (ReflectliteType.abiMethod fun t => do pure (.int .u8 (← Rtype.kind t))) Ybaf.func63 (by kernel_rfl) (by kernel_rfl) (by kernel_rfl) (by kernel_rfl)
  have h37 := @run_callFunc_extern Ybaf.prog 86 _ (ReflectliteType.method ReflectliteType.elem) Ybaf.func86 (by kernel_rfl) (by kernel_rfl) (by kernel_rfl) (by kernel_rfl)
  have h38 := @run_callFunc_extern Ybaf.prog 87 _ (ReflectliteType.relation "Implements" ReflectliteType.implements_) Ybaf.func87 (by kernel_rfl) (by kernel_rfl) (by kernel_rfl) (by kernel_rfl)
  have h10 := @run_callFunc_extern Ybaf.prog 43 _ ReflectliteType.typeOf Ybaf.func43 (by kernel_rfl) (by kernel_rfl) (by kernel_rfl) (by kernel_rfl)
  have h35 := @run_callFunc_extern Ybaf.prog 84 _ (ReflectliteType.relation "AssignableTo" ReflectliteType.assignableTo) Ybaf.func84 (by kernel_rfl) (by kernel_rfl) (by kernel_rfl) (by kernel_rfl)
  have tO := Ybaf.typeOf150
  have tO1 := Ybaf.typeOf151
  have mA := Ybaf.methodAssignableTo
  have a25 := Ybaf.assignable150
  have a26 := Ybaf.assignable151
  have n1 := Ybaf.noAs150
  have n2 := Ybaf.noAs151
  have n3 := Ybaf.unwrap150
  have n4 := Ybaf.noUnwrap151
  have n5 := Ybaf.noUnwraps151
  have f6 := Ybaf.valueOf101
  have f7 := Ybaf.type101
  have mK := Ybaf.methodKind
  have mE := Ybaf.methodElem
  have mI := Ybaf.methodImplements
  have k27 := Ybaf.kind101
  have k25 := Ybaf.kind99
  have e27 := Ybaf.elem101
  have i25 := Ybaf.implements99
  have n8 := Ybaf.isNil101 ⟨w.heap.size, 0, none⟩ t ((w.alloc (.cells #[.pointer (some t)] 101)).alloc (.cells #[.pointer (some ⟨9, 101, none⟩), .pointer (some ⟨w.heap.size, 0, none⟩), .int .u64 150] 116)) (by simp)
  have hlt : 6 < w.heap.size := World.block_lt_of_cell? w ⟨6, 0, none⟩ hg
  have hltp : p < w.heap.size := World.block_lt_of_cell? w ⟨p, 1, none⟩ hp
  have hg2 : ((w.alloc (.cells #[.pointer (some t)] 101)).alloc (.cells #[.pointer (some ⟨9, 101, none⟩), .pointer (some ⟨w.heap.size, 0, none⟩), .int .u64 150] 116)).cell? ⟨6, 0, none⟩ = some (.iface 134 (.agg #[.pointer (some ⟨9, 48, none⟩)])) := by
    rw [World.cell?_alloc_lt _ _ ⟨6, 0, none⟩ (by simp; omega), World.cell?_alloc_lt _ _ ⟨6, 0, none⟩ hlt]; exact hg
  have hp3 : (((w.alloc (.cells #[.pointer (some t)] 101)).alloc (.cells #[.pointer (some ⟨9, 101, none⟩), .pointer (some ⟨w.heap.size, 0, none⟩), .int .u64 150] 116)).alloc (.cells #[.pointer (some ⟨9, 101, none⟩), .pointer (some ⟨w.heap.size, 0, none⟩), .int .u64 150] 116)).cell? ⟨p, 1, none⟩ = some (.iface 151 (.pointer (some ⟨ab, 0, none⟩))) := by
    rw [World.cell?_alloc_lt _ _ ⟨p, 1, none⟩ (by simp; omega), World.cell?_alloc_lt _ _ ⟨p, 1, none⟩ (by simp; omega), World.cell?_alloc_lt _ _ ⟨p, 1, none⟩ hltp]; exact hp
  have hp2 : ((w.alloc (.cells #[.pointer (some t)] 101)).alloc (.cells #[.pointer (some ⟨9, 101, none⟩), .pointer (some ⟨w.heap.size, 0, none⟩), .int .u64 150] 116)).cell? ⟨p, 1, none⟩ = some (.iface 151 (.pointer (some ⟨ab, 0, none⟩))) := by
    rw [World.cell?_alloc_lt _ _ ⟨p, 1, none⟩ (by simp; omega), World.cell?_alloc_lt _ _ ⟨p, 1, none⟩ hltp]; exact hp
  go_enter Ybaf.func32, Ybaf.ntmps32
  go_wp2_with (go_at_call 40; refine (as_loop p ab (.iface 101 (.pointer (some t))) _ _ (by first | exact hp3 | exact hp2) rfl).mono ?_; rintro e w' ⟨rfl, hb⟩)
  go_ret
  exact ⟨rfl, ((((Below.refl _ _).alloc (Nat.le_refl _) _).alloc (by simp) _)).trans (hb.mono (by simp; omega))⟩
set_option maxHeartbeats 400000 in
theorem isOut_miss (p ab : Nat) (w : World) (hg : ErrT w) (hp : w.cell? ⟨p, 1, none⟩ = some (.iface 151 (.pointer (some ⟨ab, 0, none⟩)))) :
    Calls Ybaf.prog 16 #[.iface 150 (.pointer (some ⟨p, 0, none⟩))] w fun ev w' => ev = .returned (.bool false) ∧ Below w.heap.size w w' := by
  have hlt : 6 < w.heap.size := World.block_lt_of_cell? w ⟨6, 0, none⟩ hg
  have hltp : p < w.heap.size := World.block_lt_of_cell? w ⟨p, 1, none⟩ hp
  go_enter Ybaf.func16, Ybaf.ntmps16
  go_wp2_with fail
  refine (as_miss p ab ⟨w.heap.size, 0, none⟩ _ (cellOld _ hg) (cellOld _ hp)).mono ?_
  rintro ev w' ⟨rfl, hb0⟩
  have hb : Below w.heap.size w w' := ((Below.refl _ _).alloc (Nat.le_refl _) _).trans (hb0.mono (by simp))
  clear hb0
  go_wp2
  go_ret
  exact ⟨rfl, hb⟩

end Go.Proofs.YbulkblxcFmt
