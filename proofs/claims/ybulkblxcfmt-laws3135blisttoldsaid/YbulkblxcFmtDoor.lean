import Derived.Test.YbulkblxcFmtRows
import Derived.ProofKit
import Derived.LaidMore
import Derived.LaidLaws
import Derived.Deep.DeepWitnessRef
import Derived.Stop.JoinedTold
namespace Go.Proofs.YbulkblxcFmt
open Go.ChangeShapes Go.WideShapes Go.ChangeAt Go.RowKit
set_option maxRecDepth 100000

theorem Ybaf.own : ownKnob Ybaf.prog.godebug = none := by kernel_rfl

/-- The door's own heap meets the condition of the rows over package pe. -/
theorem door_met_pe (os : Os) (args : Array Value) : laidMetH Ybaf.prog Rows.lawS3135CImageRow.laid ((World.doorLaid Ybaf.prog 158 os).forCall (fun _ _ => 0) ⟨#[], args, []⟩).memory :=
  laidMetH_of_parts3 (fuel := 8) (laidMet_of_run' 8 (by kernel_rfl) (by kernel_rfl)) (by kernel_rfl) (by kernel_rfl)

theorem door_met_macho (os : Os) (args : Array Value) : laidMetH Ybaf.prog Rows.lawS3135BListRow.laid ((World.doorLaid Ybaf.prog 158 os).forCall (fun _ _ => 0) ⟨#[], args, []⟩).memory :=
  laidMetH_of_parts3 (fuel := 8) (laidMet_of_run' 8 (by kernel_rfl) (by kernel_rfl)) (by kernel_rfl) (by kernel_rfl)

end Go.Proofs.YbulkblxcFmt
