/-
  No cell of these rows narrows 'for every input' (looked for: loops, veiled, ifaces, maps, wideKeys, modest, calm, conditions, laid).
  DERIVED. THE GIVEN ROWS OF THIS SEAT. 2 by the template 'for every input the law returns true; each argument reads behind the call as it read before'; 0 by the template 'total and deterministic' (their statements: YbulkblxcTotals.lean).
  GIVEN WITH THE SEED: the statements are not yours to turn. If you find one false, say at which input.
  Laid BY PROGRAM, IN A SANDBOX (cutbox-rows.mjs): the forced cells as the released guide's own fill.sh prints them over the translation 0bd483dda3b02b18… (all of the seat's roots in one cut). By AI agents, Wed Nov 11 2026. No macro, syntax, notation, axiom, sorry.
-/
import Derived.Test.YbulkblxcChecked
import GoSem.Claim
import GoSem.ClaimJoined
import GoSem.ClaimMapViews
import Derived.JoinedTies
import Derived.KernelRfl
namespace Go.Proofs.Ybulkblxc
/- THE CELL 'sum', in the pinned program and in every row, IS THE sha256 OF THE DUMP (.gsa) THAT YbulkblxcProg.lean LOADS. Nothing in Lean hashes anything: it is a label: what it is worth is what the hold of that sum in a sandbox is worth. -/
noncomputable def Yba.pinned : Pinned := { name := "ybulkblxc", sum := "0bd483dda3b02b18fd7b07cb6b27c2d04a9f2c92f3801c9a979f3854a1993a4c", checked := Yba.checked }
namespace Rows
def none {H : Type} : Left H := { results := [], args := [] }

/-- 'pe.LawS3135ALittle': WHATEVER THE INPUT: true; the input reads as it did. -/
def lawS3135ALittleSpec : ChangeSpec := { name := "lawS3135ALittle", fn := fun _ => fun
  | [d] => { results := [.lit (.bool true)], args := [d] }
  | _ => none }
def lawS3135ALittleRow : OpenClaim := { program := "ybulkblxc", sum := "0bd483dda3b02b18fd7b07cb6b27c2d04a9f2c92f3801c9a979f3854a1993a4c", func := "example.com/objsight/objsight/pe.LawS3135ALittle", spec := "lawS3135ALittle", unfollowed := true, recurses := true, named := ["encoding/binary.LittleEndian"], apart := false }
def LawS3135ALittleSaid : Prop := lawS3135ALittleRow.holds Yba.pinned (OpenSpec.ofChange lawS3135ALittleSpec)

/-- ITS FALSE NEIGHBOUR: 'it returns false'. Refute it at one input. -/
def lawS3135ALittleWrong : ChangeSpec := { name := "lawS3135ALittle", fn := fun _ => fun
  | [d] => { results := [.lit (.bool false)], args := [d] }
  | _ => none }
def LawS3135ALittleWrongFalsely : Prop := lawS3135ALittleRow.holds Yba.pinned (OpenSpec.ofChange lawS3135ALittleWrong)

/-- 'pe.LawS3135AOrder': WHATEVER THE INPUT: true; the input reads as it did. -/
def lawS3135AOrderSpec : ChangeSpec := { name := "lawS3135AOrder", fn := fun _ => fun
  | [d1, d2, d3] => { results := [.lit (.bool true)], args := [d1, d2, d3] }
  | _ => none }
def lawS3135AOrderRow : OpenClaim := { program := "ybulkblxc", sum := "0bd483dda3b02b18fd7b07cb6b27c2d04a9f2c92f3801c9a979f3854a1993a4c", func := "example.com/objsight/objsight/pe.LawS3135AOrder", spec := "lawS3135AOrder", unfollowed := true, recurses := true, apart := false }
def LawS3135AOrderSaid : Prop := lawS3135AOrderRow.holds Yba.pinned (OpenSpec.ofChange lawS3135AOrderSpec)

/-- ITS FALSE NEIGHBOUR: 'it returns false'. Refute it at one input. -/
def lawS3135AOrderWrong : ChangeSpec := { name := "lawS3135AOrder", fn := fun _ => fun
  | [d1, d2, d3] => { results := [.lit (.bool false)], args := [d1, d2, d3] }
  | _ => none }
def LawS3135AOrderWrongFalsely : Prop := lawS3135AOrderRow.holds Yba.pinned (OpenSpec.ofChange lawS3135AOrderWrong)

end Rows
end Go.Proofs.Ybulkblxc
