/-
  DERIVED. GIVEN WITH THE SEED: THE PROGRAM's TIES (one call each: nine closed facts by the kernel) AND EACH ROW's TIE, after the 31st guide's Derived/Test/Toyas{Tie, Card}.lean. No idea stands in it: it is a product of the set-up. Laid BY PROGRAM, IN A SANDBOX (cutbox-door.mjs). By AI agents, Wed Nov 11 2026. No macro, syntax, notation, axiom, sorry.
-/
import Derived.Test.YbulkblxcFmtRows
import Derived.LaidByTextLater
import Derived.SevenTiedAt
import Derived.LaidSub
import Derived.LaidOnce
namespace Go.Proofs.YbulkblxcFmt
open Go
set_option maxRecDepth 100000
theorem seatTie1 : Ybaf.prog.laidByTextLater [("errors.errorType", Rows.laid_errors_errorType), ("io.EOF", Rows.laid_io_EOF), ("io.ErrUnexpectedEOF", Rows.laid_io_ErrUnexpectedEOF), ("example.com/objsight/objsight/macho.machines", Rows.laid_example_com_objsight_objsight_macho_machines), ("example.com/objsight/objsight/macho.sliceForms", Rows.laid_example_com_objsight_objsight_macho_sliceForms), ("example.com/objsight/objsight/pe.dosMagic", Rows.laid_example_com_objsight_objsight_pe_dosMagic), ("example.com/objsight/objsight/pe.machines", Rows.laid_example_com_objsight_objsight_pe_machines)] [.handle, .sentinel, .sentinel, .mapped, .mapped, .widerDeep, .mapped] true :=
  Program.laidByTextLater_by_one 158 8 3 (by kernel_rfl) (by kernel_rfl) (by kernel_rfl) (by kernel_rfl) (by kernel_rfl) (by kernel_rfl) (fun _ _ => by kernel_rfl)
theorem noOwnUnsafe : Ybaf.pinned.checked.prog.headLifts.contains "ownunsafe" = false := by kernel_rfl
theorem tie : Ybaf.prog.laidByTextLater [("errors.errorType", Rows.laid_errors_errorType), ("io.EOF", Rows.laid_io_EOF), ("io.ErrUnexpectedEOF", Rows.laid_io_ErrUnexpectedEOF), ("example.com/objsight/objsight/macho.machines", Rows.laid_example_com_objsight_objsight_macho_machines), ("example.com/objsight/objsight/macho.sliceForms", Rows.laid_example_com_objsight_objsight_macho_sliceForms)] [.handle, .sentinel, .sentinel, .mapped, .mapped] true :=
  Program.laidByTextLater.sub seatTie1 ["errors.errorType", "io.EOF", "io.ErrUnexpectedEOF", "example.com/objsight/objsight/macho.machines", "example.com/objsight/objsight/macho.sliceForms"] (by kernel_rfl) (by kernel_rfl)
theorem lawS3135BList_row_tie : Rows.lawS3135BListRow.laidByTextAt .later Ybaf.pinned [.handle, .sentinel, .sentinel, .mapped, .mapped] true :=
  OpenClaim.laidByTextAt_later rfl rfl tie noOwnUnsafe
theorem lawS3135BRefuse_row_tie : Rows.lawS3135BRefuseRow.laidByTextAt .later Ybaf.pinned [.handle, .sentinel, .sentinel, .mapped, .mapped] true :=
  OpenClaim.laidByTextAt_later rfl rfl tie noOwnUnsafe
theorem tie2 : Ybaf.prog.laidByTextLater [("errors.errorType", Rows.laid_errors_errorType), ("io.EOF", Rows.laid_io_EOF), ("io.ErrUnexpectedEOF", Rows.laid_io_ErrUnexpectedEOF), ("example.com/objsight/objsight/pe.dosMagic", Rows.laid_example_com_objsight_objsight_pe_dosMagic), ("example.com/objsight/objsight/pe.machines", Rows.laid_example_com_objsight_objsight_pe_machines)] [.handle, .sentinel, .sentinel, .widerDeep, .mapped] true :=
  Program.laidByTextLater.sub seatTie1 ["errors.errorType", "io.EOF", "io.ErrUnexpectedEOF", "example.com/objsight/objsight/pe.dosMagic", "example.com/objsight/objsight/pe.machines"] (by kernel_rfl) (by kernel_rfl)
theorem lawS3135CModel_row_tie : Rows.lawS3135CModelRow.laidByTextAt .later Ybaf.pinned [.handle, .sentinel, .sentinel, .widerDeep, .mapped] true :=
  OpenClaim.laidByTextAt_later rfl rfl tie2 noOwnUnsafe
theorem lawS3135CImage_row_tie : Rows.lawS3135CImageRow.laidByTextAt .later Ybaf.pinned [.handle, .sentinel, .sentinel, .widerDeep, .mapped] true :=
  OpenClaim.laidByTextAt_later rfl rfl tie2 noOwnUnsafe
theorem lawS3135CObject_row_tie : Rows.lawS3135CObjectRow.laidByTextAt .later Ybaf.pinned [.handle, .sentinel, .sentinel, .widerDeep, .mapped] true :=
  OpenClaim.laidByTextAt_later rfl rfl tie2 noOwnUnsafe
end Go.Proofs.YbulkblxcFmt
