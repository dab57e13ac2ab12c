/-
  No cell of these rows narrows 'for every input' (looked for: loops, veiled, ifaces, maps, wideKeys, modest, calm, conditions, laid).
  DERIVED. THE GIVEN ROWS OF THIS SEAT. 1 by the template 'for every input the law returns true; each argument reads behind the call as it read before'; 0 by the template 'total and deterministic' (their statements: YbulkbmfeTotals.lean).
  GIVEN WITH THE SEED: the statements are not yours to turn. If you find one false, say at which input.
  Laid BY PROGRAM, IN A SANDBOX (cutbox-rows.mjs): the forced cells as the released guide's own fill.sh prints them over the translation 12063a0a9b6e42d1… (all of the seat's roots in one cut). By AI agents, Wed Nov 11 2026. No macro, syntax, notation, axiom, sorry.
-/
import Derived.Test.YbulkbmfeChecked
import GoSem.Claim
import GoSem.ClaimJoined
import GoSem.ClaimMapViews
import Derived.JoinedTies
import Derived.KernelRfl
namespace Go.Proofs.Ybulkbmfe
/- THE CELL 'sum', in the pinned program and in every row, IS THE sha256 OF THE DUMP (.gsa) THAT YbulkbmfeProg.lean LOADS. Nothing in Lean hashes anything: it is a label: what it is worth is what the hold of that sum in a sandbox is worth. -/
noncomputable def Yba.pinned : Pinned := { name := "ybulkbmfe", sum := "12063a0a9b6e42d1181e2401090092571168eda32824742b4e3026ae224d076b", checked := Yba.checked }
namespace Rows
def none {H : Type} : Left H := { results := [], args := [] }

/-- 'state.LawS3150ALookup': WHATEVER THE INPUT: true; the input reads as it did. -/
def lawS3150ALookupSpec : ChangeSpec := { name := "lawS3150ALookup", fn := fun _ => fun
  | [d1, d2, d3, d4, d5] => { results := [.lit (.bool true)], args := [d1, d2, d3, d4, d5] }
  | _ => none }
def lawS3150ALookupRow : OpenClaim := { program := "ybulkbmfe", sum := "12063a0a9b6e42d1181e2401090092571168eda32824742b4e3026ae224d076b", func := "example.com/keyholder/keyholder/state.LawS3150ALookup", spec := "lawS3150ALookup", inPlace := ["(*sync.RWMutex).RLock", "internal/race.Read", "internal/race.Disable", "sync/atomic.AddInt32", "sync.runtime_SemacquireRWMutexR", "internal/race.Enable", "internal/race.Acquire", "(*sync.RWMutex).RUnlock", "internal/race.ReleaseMerge", "(*sync.RWMutex).rUnlockSlow", "sync.fatal", "sync.runtime_Semrelease"], plainKeys := false, apart := false }
def LawS3150ALookupSaid : Prop := lawS3150ALookupRow.holds Yba.pinned (OpenSpec.ofChange lawS3150ALookupSpec)

/-- ITS FALSE NEIGHBOUR: 'it returns false'. Refute it at one input. -/
def lawS3150ALookupWrong : ChangeSpec := { name := "lawS3150ALookup", fn := fun _ => fun
  | [d1, d2, d3, d4, d5] => { results := [.lit (.bool false)], args := [d1, d2, d3, d4, d5] }
  | _ => none }
def LawS3150ALookupWrongFalsely : Prop := lawS3150ALookupRow.holds Yba.pinned (OpenSpec.ofChange lawS3150ALookupWrong)

end Rows
end Go.Proofs.Ybulkbmfe
