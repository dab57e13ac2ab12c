import Derived.Test.YbulkblxcFmtLocObj
import Derived.Stop.CallBack
import Derived.Stop.IfaceNil
import GoSem.ClaimData
namespace Go.Proofs.YbulkblxcFmt
open Go.RowKit Go.Extern.Stop Go.Stop Go.Extern
set_option linter.unusedVariables false

theorem call47 (args : Array Value) (w : World) : (callFunc 47 args).run Ybaf.prog w = (FmtCalls.errorf #[9, 148] #[48] args).run Ybaf.prog w :=
  run_callFunc_next Ybaf.func47 (by kernel_rfl) (by kernel_rfl) (by kernel_rfl) args w
theorem fguard (name : String) (w : World) : (FmtStop.guard name).run Ybaf.prog w = .ok () w := by kernel_rfl
theorem nextTurns : Extern.next FmtCalls.turnsRow = some (FmtCalls.begun #[] #[]) := by kernel_rfl
abbrev fmtBytes : Array UInt8 := #[114, 101, 97, 100, 105, 110, 103, 32, 37, 100, 32, 98, 121, 116, 101, 115, 32, 97, 116, 32, 111, 102, 102, 115, 101, 116, 32, 37, 100, 58, 32, 37, 119]
theorem fmt0 : FmtStop.printed? ⟨fmtBytes⟩ 3 = some [(0, 100, false), (1, 100, false), (2, 119, false)] := by kernel_rfl
theorem fmt0r (w : World) : (FmtDoors.printed ⟨fmtBytes⟩ 3).run Ybaf.prog w = .ok [(0, 100, false), (1, 100, false), (2, 119, false)] w := by kernel_rfl
theorem name24 : Ybaf.prog.typeName? 3 24 = some "uint64" := by kernel_rfl
def shape24 : List UInt8 := [9, 6, 0, 0, 0, 0, 0, 0, 0, 117, 105, 110, 116, 54, 52]
theorem act24_100w (name : String) (x : Value) (w : World) : (FmtCalls.act name true 100 false (.iface 24 x)).run Ybaf.prog w = .ok (.closed true) w := by kernel_rfl
theorem op24_100w (name : String) (x : Int) (w : World) : (FmtStop.operand name true 100 false (.iface 24 (.int .u64 x))).run Ybaf.prog w = .ok (shape24, Go.Extern.Stop.digits 8 (x % 2 ^ 64).toNat) w := by kernel_rfl
theorem str24 (w : World) : (typeStr 24).run Ybaf.prog w = .ok "uint64" w := by kernel_rfl
theorem ptr151 (w : World) : (FmtStop.ptrTo "errors.errorString").run Ybaf.prog w = .ok 151 w := by kernel_rfl
theorem elem151 (w : World) : (elemOf 151).run Ybaf.prog w = .ok 153 w := by kernel_rfl
theorem isError151 (w : World) : (FmtDoors.textMethod 151 "Error").run Ybaf.prog w = .ok true w := by kernel_rfl
theorem name151 : Ybaf.prog.typeName? 3 151 = some "*errors.errorString" := by kernel_rfl
theorem actPlain151_119w (name : String) (x : Value) (w : World) : (FmtCalls.act name true 119 false (.iface 151 x)).run Ybaf.prog w = .ok (.closed true) w := by kernel_rfl
theorem ptr150 (w : World) : (FmtStop.ptrTo "fmt.wrapError").run Ybaf.prog w = .ok 150 w := by kernel_rfl
theorem elem150 (w : World) : (elemOf 150).run Ybaf.prog w = .ok 177 w := by kernel_rfl
theorem isError150 (w : World) : (FmtDoors.textMethod 150 "Error").run Ybaf.prog w = .ok true w := by kernel_rfl
def plain151 : List UInt8 := 14 :: FmtStop.pack "*errors.errorString".toUTF8.data.toList
theorem opPlain151_119w (name : String) (a : Addr) (s : ByteArray) (w : World) (hc : w.cell? a = some (.string s)) :
    (FmtStop.operand name true 119 false (.iface 151 (.pointer (some a)))).run Ybaf.prog w = .ok (plain151, s.data.toList) w := by
  have h1 : (typeStr 151).run Ybaf.prog w = .ok "*errors.errorString" w := by kernel_rfl
  have d2 : Ybaf.t151.desc = .pointer 153 := rfl
  have d3 : Ybaf.t153.desc = .named "errors.errorString" 152 := rfl
  simp [FmtStop.operand, h1, d2, d3, run_load, hc, plain151]

def readR (n off : Int) (t : ByteArray) : List (List UInt8) :=
  [fmtBytes.toList, shape24, digits 8 (n % 2 ^ 64).toNat, shape24, digits 8 (off % 2 ^ 64).toNat, plain151, t.data.toList]

set_option maxRecDepth 100000 in
set_option maxHeartbeats 800000 in
theorem errorf_w (F : Interp) (n off : Int) (t : ByteArray) (a : Addr) (blk : Nat) (w : World) (hF : F.answers w.tape)
    (hc0 : w.cell? ⟨blk, 0, none⟩ = some (.iface 24 (.int .u64 n))) (hc1 : w.cell? ⟨blk, 1, none⟩ = some (.iface 24 (.int .u64 off))) (hc2 : w.cell? ⟨blk, 2, none⟩ = some (.iface 151 (.pointer (some a)))) (hs : w.cell? a = some (.string t)) :
    Calls Ybaf.prog 46 #[.string ⟨fmtBytes⟩, .slice (some ⟨blk, 0, none⟩) 3 3] w fun e w' =>
      e = .returned (.iface 150 (.pointer (some ⟨w.heap.size, 0, none⟩))) ∧ w' = (w.alloc (.cells #[.string (FmtStop.textOf (F "fmt.errorf" (readR n off t) 0)), .iface 151 (.pointer (some a))] 177)).drew := by
  have hF' := answers_open hF
  have hop := opPlain151_119w "fmt.errorf" a t w hs
  have h1 := call47
  have h2 := fguard
  have h3 := fmt0
  have h4 := fmt0r
  have h5 := act24_100w
  have h6 := op24_100w
  have h7 := ptr151
  have h8 := elem151
  have h9 := isError151
  have h10 := actPlain151_119w
  have h11 := ptr150
  have h12 := elem150
  have h13 := isError150
  go_enter Ybaf.func46, Ybaf.ntmps46
  go_wp2
  apply rows_value nextTurns
  case hr =>
    go_simp
    exact ⟨rfl, rfl⟩
  case h =>
    go_wp2
    go_ret
    exact ⟨rfl, rfl⟩
end Go.Proofs.YbulkblxcFmt
