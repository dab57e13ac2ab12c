import Derived.Test.YbulkblxcFmtRead
import Derived.LaidEql
import Derived.Stop.Asserts
import Derived.RowKitTokens
namespace Go.Proofs.YbulkblxcFmt
open Go.RowKit Go.Extern.Stop Go.Stop Go.Extern
set_option linter.unusedVariables false

/-- errors.As(nil, target). -/
theorem as_nil (t : Value) (w : World) :
    Calls Ybaf.prog 32 #[.nilIface, t] w fun e w' => e = .returned (.bool false) ∧ w' = w := by
  go_enter Ybaf.func32, Ybaf.ntmps32
  go_wp2
  go_ret
  exact ⟨rfl, rfl⟩

theorem Ybaf.valueOf101 (t : Addr) (w : World) : (ReflectliteValue.unpack (.iface 101 (.pointer (some t)))).run Ybaf.prog w
    = .ok (.agg #[.pointer (some ⟨9, 101, none⟩), .pointer (some ⟨w.heap.size, 0, none⟩), .int .u64 150]) (w.alloc (.cells #[.pointer (some t)] 101)) := by kernel_rfl
theorem Ybaf.type101 (a : Addr) (w : World) : (ReflectliteValue.methodAny (ReflectliteValue.valueError "reflectlite.Value.Type" 0) (fun t _ _ _ => ReflectliteType.toType t) #[.agg #[.pointer (some ⟨9, 101, none⟩), .pointer (some a), .int .u64 150]]).run Ybaf.prog w
    = .ok (.iface 134 (.agg #[.pointer (some ⟨9, 101, none⟩)])) w := by kernel_rfl
theorem Ybaf.methodKind (h : Value) (w : World) : (Go.method 289 134 (.agg #[h]) "Kind").run Ybaf.prog w = .ok (63, h) w := by kernel_rfl
theorem Ybaf.kind101 (w : World) : ((ReflectliteType.abiMethod fun t => (fun a : Nat => Value.int IntKind.u8 (a : Int)) <$> Rtype.kind t) #[.pointer (some ⟨9, 101, none⟩)]).run Ybaf.prog w = .ok (.int .u8 22) w := by kernel_rfl
theorem Ybaf.kind99 (w : World) : ((ReflectliteType.abiMethod fun t => (fun a : Nat => Value.int IntKind.u8 (a : Int)) <$> Rtype.kind t) #[.pointer (some ⟨9, 99, none⟩)]).run Ybaf.prog w = .ok (.int .u8 22) w := by kernel_rfl

/-! ### THE ENTRIES THAT READ OR WRITE MEMORY: laws with a premise on the cell (after Derived/Lib/ReflectliteSlice.lean's manner: each unfolding a lemma of its own, by rfl) -/
theorem rlm (z : Sem Value) (f : TypeId → Addr → Nat → Nat → Sem Value) (v : Value) :
    ReflectliteValue.method z f #[v] = (do match ← ReflectliteValue.parts v with | none => z | some (t, a, fl) => f t a fl (fl % 32)) := rfl
theorem Ybaf.parts101 (a : Addr) (w : World) : (ReflectliteValue.parts (.agg #[.pointer (some ⟨9, 101, none⟩), .pointer (some a), .int .u64 150])).run Ybaf.prog w = .ok (some (101, a, 150)) w := by kernel_rfl
/-- (Value).IsNil at the Value of a **p.E that is not nil. -/
theorem Ybaf.isNil101 (a p : Addr) (W : World) (ha : W.cell? a = some (.pointer (some p))) :
    (ReflectliteValue.method (ReflectliteValue.valueError "reflectlite.Value.IsNil" 0) ReflectliteValue.isNil #[.agg #[.pointer (some ⟨9, 101, none⟩), .pointer (some a), .int .u64 150]]).run Ybaf.prog W = .ok (.bool false) W := by
  rw [rlm]
  simp only [Sem.run_bind, Ybaf.parts101, Result.andThen]
  simp [ReflectliteValue.isNil, loadVar, isAgg, underlying, Ybaf.underlying101, ha, Result.andThen]

theorem Ybaf.methodElem (h : Value) (w : World) : (Go.method 289 134 (.agg #[h]) "Elem").run Ybaf.prog w = .ok (86, .agg #[h]) w := by kernel_rfl
theorem Ybaf.methodImplements (h : Value) (w : World) : (Go.method 289 134 (.agg #[h]) "Implements").run Ybaf.prog w = .ok (87, .agg #[h]) w := by kernel_rfl
theorem Ybaf.methodAssignableTo (h : Value) (w : World) : (Go.method 289 134 (.agg #[h]) "AssignableTo").run Ybaf.prog w = .ok (84, .agg #[h]) w := by kernel_rfl
theorem Ybaf.elem101 (w : World) : (ReflectliteType.method ReflectliteType.elem #[.agg #[.pointer (some ⟨9, 101, none⟩)]]).run Ybaf.prog w = .ok (.iface 134 (.agg #[.pointer (some ⟨9, 99, none⟩)])) w := by kernel_rfl
theorem Ybaf.implements99 (w : World) : (ReflectliteType.relation "Implements" ReflectliteType.implements_ #[.agg #[.pointer (some ⟨9, 99, none⟩)], .iface 134 (.agg #[.pointer (some ⟨9, 48, none⟩)])]).run Ybaf.prog w = .ok (.bool true) w := by kernel_rfl
theorem Ybaf.typeOf99 (v : Value) (w : World) : (ReflectliteType.typeOf #[.iface 99 v]).run Ybaf.prog w = .ok (.iface 134 (.agg #[.pointer (some ⟨9, 99, none⟩)])) w := by kernel_rfl
theorem Ybaf.assignable99 (w : World) : (ReflectliteType.relation "AssignableTo" ReflectliteType.assignableTo #[.agg #[.pointer (some ⟨9, 99, none⟩)], .iface 134 (.agg #[.pointer (some ⟨9, 99, none⟩)])]).run Ybaf.prog w = .ok (.bool true) w := by kernel_rfl
theorem Ybaf.valueOf99 (e : Addr) (w : World) : (ReflectliteValue.unpack (.iface 99 (.pointer (some e)))).run Ybaf.prog w
    = .ok (.agg #[.pointer (some ⟨9, 99, none⟩), .pointer (some ⟨w.heap.size, 0, none⟩), .int .u64 150]) (w.alloc (.cells #[.pointer (some e)] 99)) := by kernel_rfl

theorem Ybaf.elemOf101 (w : World) : (Rtype.elem? 101).run Ybaf.prog w = .ok (some 99) w := by kernel_rfl
theorem Ybaf.mk99 (p : Addr) (w : World) : (ReflectliteValue.mk 99 p ReflectliteValue.flagAddr).run Ybaf.prog w = .ok (.agg #[.pointer (some ⟨9, 99, none⟩), .pointer (some p), .int .u64 406]) w := by kernel_rfl
/-- (Value).Elem at the Value of a **p.E that is not nil: the Value of the *p.E variable that it points to, addressable. -/
theorem Ybaf.elemV101 (a p : Addr) (W : World) (ha : W.cell? a = some (.pointer (some p))) :
    (ReflectliteValue.method (ReflectliteValue.valueError "reflectlite.Value.Elem" 0) ReflectliteValue.elem #[.agg #[.pointer (some ⟨9, 101, none⟩), .pointer (some a), .int .u64 150]]).run Ybaf.prog W
      = .ok (.agg #[.pointer (some ⟨9, 99, none⟩), .pointer (some p), .int .u64 406]) W := by
  rw [rlm]
  simp only [Sem.run_bind, Ybaf.parts101, Result.andThen]
  simp [ReflectliteValue.elem, loadVar, isAgg, underlying, Ybaf.underlying101, ha, Result.andThen, Ybaf.elemOf101, Ybaf.mk99]
theorem rls (v x : Value) : ∃ s1 s2 s3 s4 s5 : String, ReflectliteValue.set #[v, x] = (do
    let (some (dst, a, fl), some (src, b, _)) := (← ReflectliteValue.parts v, ← ReflectliteValue.parts x)
      | unsupported (.noEntry s1)
    if fl / ReflectliteValue.flagAddr % 2 == 0 then unsupported (.noEntry s2)
    let val ← loadVar src b
    if ← Rtype.directlyAssignable dst src then storeVar dst a val
    else if ← Rtype.implements dst src then
      if (← Rtype.kind src) == 20 then
        match val with
        | .nilIface => unsupported (.noEntry s3)
        | _ => storeVar dst a val
      else storeVar dst a (.iface src val)
    else panicString (s4 ++ (← Rtype.spelt src) ++ s5 ++ (← Rtype.spelt dst))
    pure (.tuple #[])) := ⟨_, _, _, _, _, rfl⟩
theorem Ybaf.parts99a (a : Addr) (w : World) : (ReflectliteValue.parts (.agg #[.pointer (some ⟨9, 99, none⟩), .pointer (some a), .int .u64 406])).run Ybaf.prog w = .ok (some (99, a, 406)) w := by kernel_rfl
theorem Ybaf.parts99 (a : Addr) (w : World) : (ReflectliteValue.parts (.agg #[.pointer (some ⟨9, 99, none⟩), .pointer (some a), .int .u64 150])).run Ybaf.prog w = .ok (some (99, a, 150)) w := by kernel_rfl
theorem Ybaf.direct99 (w : World) : (Rtype.directlyAssignable 99 99).run Ybaf.prog w = .ok true w := by kernel_rfl
theorem Ybaf.size99 (w : World) : (sizeOf 99).run Ybaf.prog w = .ok 1 w := by kernel_rfl
/-- (Value).Set: the *p.E variable at 'ta' gets what the Value's own variable 'b' holds. -/
theorem Ybaf.set99 (ta b e : Addr) (old : Value) (W : World) (hb : W.cell? b = some (.pointer (some e))) (ht : W.cell? ta = some old) (hf : W.frozen? ta = false) :
    (ReflectliteValue.set #[.agg #[.pointer (some ⟨9, 99, none⟩), .pointer (some ta), .int .u64 406], .agg #[.pointer (some ⟨9, 99, none⟩), .pointer (some b), .int .u64 150]]).run Ybaf.prog W
      = .ok (.tuple #[]) (W.setCell ta (.pointer (some e))) := by
  obtain ⟨s1, s2, s3, s4, s5, hs⟩ := rls (.agg #[.pointer (some ⟨9, 99, none⟩), .pointer (some ta), .int .u64 406]) (.agg #[.pointer (some ⟨9, 99, none⟩), .pointer (some b), .int .u64 150])
  rw [hs]
  simp only [Sem.run_bind, Ybaf.parts99a, Ybaf.parts99, Result.andThen]
  simp [ReflectliteValue.flagAddr, loadVar, isAgg, underlying, Ybaf.underlying99, hb, Result.andThen, Ybaf.direct99, storeVar, Value.cells, storeCells, Addr.add]
  rw [run_store Ybaf.prog W ta _ _ (by rfl)]
  simp [ht, hf]

end Go.Proofs.YbulkblxcFmt
