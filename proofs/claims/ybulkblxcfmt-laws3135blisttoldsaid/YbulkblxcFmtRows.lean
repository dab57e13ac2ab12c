/-
  NARROWER THAN 'FOR EVERY INPUT', by the rows' own cells (each row's printed sentence says how): LawS3135BList: maps, laid · LawS3135BRefuse: maps, laid · LawS3135CModel: maps, laid · LawS3135CImage: maps, laid · LawS3135CObject: maps, laid.
  DERIVED. THE GIVEN ROWS OF THIS SEAT. 5 by the template 'for every input the law returns true; each argument reads behind the call as it read before'; 0 by the template 'total and deterministic' (their statements: YbulkblxcFmtTotals.lean).
  GIVEN WITH THE SEED: the statements are not yours to turn. If you find one false, say at which input.
  Laid BY PROGRAM, IN A SANDBOX (cutbox-rows.mjs): the forced cells as the released guide's own fill.sh prints them over the translation 7947c122094008cc… (all of the seat's roots in one cut). By AI agents, Wed Nov 11 2026. No macro, syntax, notation, axiom, sorry.
-/
import Derived.Test.YbulkblxcFmtChecked
import GoSem.Claim
import GoSem.ClaimJoined
import GoSem.ClaimMapViews
import Derived.JoinedTies
import Derived.KernelRfl
namespace Go.Proofs.YbulkblxcFmt
/- THE CELL 'sum', in the pinned program and in every row, IS THE sha256 OF THE DUMP (.gsa) THAT YbulkblxcFmtProg.lean LOADS. Nothing in Lean hashes anything: it is a label: what it is worth is what the hold of that sum in a sandbox is worth. -/
noncomputable def Ybaf.pinned : Pinned := { name := "ybulkblxcfmt", sum := "7947c122094008cc35e0a9617e03eba01b20b160ec05c534266deb3c3e58c2f0", checked := Ybaf.checked }
namespace Rows
def none {H : Type} : Left H := { results := [], args := [] }

/- WHAT THE LISTED PACKAGE-LEVEL VARIABLES READ AS WHEN THE CALL BEGINS. Each datum BY PROGRAM (the guide's laid-datum.mjs) off the statement by which the dump's own 'gosem.cut.vars' lays the variable. In a bare row this is a premise. The card (YbulkblxcFmtCards.lean) ties it to the program's text. -/
def laid_errors_errorType {H : Type} : DataW H := .iface "internal/reflectlite.rtype" (.agg [.ptr (.lit (.string [101, 114, 114, 111, 114]))])
def laid_io_EOF {H : Type} : DataW H := .iface "*errors.errorString" (.ptr (.agg [.lit (.string [69, 79, 70])]))
def laid_io_ErrUnexpectedEOF {H : Type} : DataW H := .iface "*errors.errorString" (.ptr (.agg [.lit (.string [117, 110, 101, 120, 112, 101, 99, 116, 101, 100, 32, 69, 79, 70])]))
def laid_example_com_objsight_objsight_macho_machines {H : Type} : DataW H := .map [(.int .u32 7, .agg [.lit (.string [105, 51, 56, 54]), .agg [.lit (.int .u64 1), .lit (.int .u64 40), .lit (.int .u64 4)]]), (.int .u32 12, .agg [.lit (.string [97, 114, 109]), .agg [.lit (.int .u64 1), .lit (.int .u64 60), .lit (.int .u64 4)]]), (.int .u32 18, .agg [.lit (.string [112, 112, 99]), .agg [.lit (.int .u64 1), .lit (.int .u64 0), .lit (.int .u64 4)]]), (.int .u32 16777223, .agg [.lit (.string [120, 56, 54, 45, 54, 52]), .agg [.lit (.int .u64 4), .lit (.int .u64 128), .lit (.int .u64 8)]]), (.int .u32 16777228, .agg [.lit (.string [97, 97, 114, 99, 104, 54, 52]), .agg [.lit (.int .u64 6), .lit (.int .u64 256), .lit (.int .u64 8)]]), (.int .u32 16777234, .agg [.lit (.string [112, 112, 99, 54, 52]), .agg [.lit (.int .u64 5), .lit (.int .u64 0), .lit (.int .u64 8)]])]
def laid_example_com_objsight_objsight_macho_sliceForms {H : Type} : DataW H := .map [(.int .u32 3405691582, .agg [.lit (.int .u64 20), .lit (.int .i64 8), .lit (.int .i64 12), .lit (.int .i64 4)]), (.int .u32 3405691583, .agg [.lit (.int .u64 32), .lit (.int .i64 8), .lit (.int .i64 16), .lit (.int .i64 8)])]
def laid_example_com_objsight_objsight_pe_dosMagic {H : Type} : DataW H := .slice [.lit (.int .u8 77), .lit (.int .u8 90)] []
def laid_example_com_objsight_objsight_pe_machines {H : Type} : DataW H := .map [(.int .u16 332, .agg [.lit (.string [105, 51, 56, 54]), .lit (.int .i64 32)]), (.int .u16 448, .agg [.lit (.string [97, 114, 109]), .lit (.int .i64 32)]), (.int .u16 452, .agg [.lit (.string [97, 114, 109]), .lit (.int .i64 32)]), (.int .u16 34404, .agg [.lit (.string [120, 56, 54, 45, 54, 52]), .lit (.int .i64 64)]), (.int .u16 43620, .agg [.lit (.string [97, 97, 114, 99, 104, 54, 52]), .lit (.int .i64 64)])]

/-- 'macho.LawS3135BList': WHATEVER THE INPUT: true; the input reads as it did. -/
def lawS3135BListSpec : ChangeSpec := { name := "lawS3135BList", vars := ["example.com/objsight/objsight/macho.sliceForms", "example.com/objsight/objsight/macho.machines"], fn := fun _ => fun
  | [d1, d2, d3, g1, g2] => { results := [.lit (.bool true)], args := [d1, d2, d3], vars := [g1, g2] }
  | _ => none }
def lawS3135BListRow : OpenClaim := { program := "ybulkblxcfmt", sum := "7947c122094008cc35e0a9617e03eba01b20b160ec05c534266deb3c3e58c2f0", func := "example.com/objsight/objsight/macho.LawS3135BList", spec := "lawS3135BList", stops := ["fmt.Sprintf", "fmt.errorf, its operands' methods called"], inPlace := ["fmt.errorf", "internal/reflectlite.ValueOf", "(internal/reflectlite.Value).Type", "(internal/reflectlite.Value).IsNil", "internal/reflectlite.TypeOf", "(internal/reflectlite.Value).Elem", "(internal/reflectlite.Value).Set", "fmt.Sprintf"], unfollowed := true, recurses := true, named := ["encoding/binary.BigEndian", "example.com/objsight/objsight/macho.sliceForms", "io.EOF", "io.ErrUnexpectedEOF", "errors.errorType", "example.com/objsight/objsight/macho.machines"], maps := true, apart := false, laid := [("errors.errorType", laid_errors_errorType), ("io.EOF", laid_io_EOF), ("io.ErrUnexpectedEOF", laid_io_ErrUnexpectedEOF), ("example.com/objsight/objsight/macho.machines", laid_example_com_objsight_objsight_macho_machines), ("example.com/objsight/objsight/macho.sliceForms", laid_example_com_objsight_objsight_macho_sliceForms)] }
/-- NO THEOREM (fmt's text is open here; it may be false): for the released tool's asking of the row's closed facts alone. THE STATEMENT IS 'LawS3135BListToldSaid' (YbulkblxcFmtCards.lean). -/
def LawS3135BListFormAsk : Prop := lawS3135BListRow.holds Ybaf.pinned (OpenSpec.ofChange lawS3135BListSpec)

/-- ITS FALSE NEIGHBOUR: 'it returns false'. Refute it at one input. -/
def lawS3135BListWrong : ChangeSpec := { name := "lawS3135BList", vars := ["example.com/objsight/objsight/macho.sliceForms", "example.com/objsight/objsight/macho.machines"], fn := fun _ => fun
  | [d1, d2, d3, g1, g2] => { results := [.lit (.bool false)], args := [d1, d2, d3], vars := [g1, g2] }
  | _ => none }
def LawS3135BListWrongFormAsk : Prop := lawS3135BListRow.holds Ybaf.pinned (OpenSpec.ofChange lawS3135BListWrong)

/-- 'macho.LawS3135BRefuse': WHATEVER THE INPUT: true; the input reads as it did. -/
def lawS3135BRefuseSpec : ChangeSpec := { name := "lawS3135BRefuse", vars := ["example.com/objsight/objsight/macho.sliceForms", "example.com/objsight/objsight/macho.machines"], fn := fun _ => fun
  | [d1, d2, g1, g2] => { results := [.lit (.bool true)], args := [d1, d2], vars := [g1, g2] }
  | _ => none }
def lawS3135BRefuseRow : OpenClaim := { program := "ybulkblxcfmt", sum := "7947c122094008cc35e0a9617e03eba01b20b160ec05c534266deb3c3e58c2f0", func := "example.com/objsight/objsight/macho.LawS3135BRefuse", spec := "lawS3135BRefuse", stops := ["fmt.Sprintf", "fmt.errorf, its operands' methods called"], inPlace := ["fmt.errorf", "internal/reflectlite.ValueOf", "(internal/reflectlite.Value).Type", "(internal/reflectlite.Value).IsNil", "internal/reflectlite.TypeOf", "(internal/reflectlite.Value).Elem", "(internal/reflectlite.Value).Set", "fmt.Sprintf"], unfollowed := true, recurses := true, named := ["encoding/binary.BigEndian", "example.com/objsight/objsight/macho.sliceForms", "io.EOF", "io.ErrUnexpectedEOF", "errors.errorType", "example.com/objsight/objsight/macho.machines"], maps := true, apart := false, laid := [("errors.errorType", laid_errors_errorType), ("io.EOF", laid_io_EOF), ("io.ErrUnexpectedEOF", laid_io_ErrUnexpectedEOF), ("example.com/objsight/objsight/macho.machines", laid_example_com_objsight_objsight_macho_machines), ("example.com/objsight/objsight/macho.sliceForms", laid_example_com_objsight_objsight_macho_sliceForms)] }
/-- NO THEOREM (fmt's text is open here; it may be false): for the released tool's asking of the row's closed facts alone. THE STATEMENT IS 'LawS3135BRefuseToldSaid' (YbulkblxcFmtCards.lean). -/
def LawS3135BRefuseFormAsk : Prop := lawS3135BRefuseRow.holds Ybaf.pinned (OpenSpec.ofChange lawS3135BRefuseSpec)

/-- ITS FALSE NEIGHBOUR: 'it returns false'. Refute it at one input. -/
def lawS3135BRefuseWrong : ChangeSpec := { name := "lawS3135BRefuse", vars := ["example.com/objsight/objsight/macho.sliceForms", "example.com/objsight/objsight/macho.machines"], fn := fun _ => fun
  | [d1, d2, g1, g2] => { results := [.lit (.bool false)], args := [d1, d2], vars := [g1, g2] }
  | _ => none }
def LawS3135BRefuseWrongFormAsk : Prop := lawS3135BRefuseRow.holds Ybaf.pinned (OpenSpec.ofChange lawS3135BRefuseWrong)

/-- 'pe.LawS3135CModel': WHATEVER THE INPUT: true; the input reads as it did. -/
def lawS3135CModelSpec : ChangeSpec := { name := "lawS3135CModel", vars := ["example.com/objsight/objsight/pe.dosMagic", "example.com/objsight/objsight/pe.machines"], fn := fun _ => fun
  | [d1, d2, g1, g2] => { results := [.lit (.bool true)], args := [d1, d2], vars := [g1, g2] }
  | _ => none }
def lawS3135CModelRow : OpenClaim := { program := "ybulkblxcfmt", sum := "7947c122094008cc35e0a9617e03eba01b20b160ec05c534266deb3c3e58c2f0", func := "example.com/objsight/objsight/pe.LawS3135CModel", spec := "lawS3135CModel", stops := ["fmt.Sprintf", "fmt.errorf, its operands' methods called"], inPlace := ["fmt.errorf", "internal/reflectlite.ValueOf", "(internal/reflectlite.Value).Type", "(internal/reflectlite.Value).IsNil", "internal/reflectlite.TypeOf", "(internal/reflectlite.Value).Elem", "(internal/reflectlite.Value).Set"], unfollowed := true, recurses := true, named := ["example.com/objsight/objsight/pe.dosMagic", "example.com/objsight/objsight/pe.machines", "encoding/binary.LittleEndian", "io.EOF", "io.ErrUnexpectedEOF", "errors.errorType"], maps := true, apart := false, laid := [("errors.errorType", laid_errors_errorType), ("io.EOF", laid_io_EOF), ("io.ErrUnexpectedEOF", laid_io_ErrUnexpectedEOF), ("example.com/objsight/objsight/pe.dosMagic", laid_example_com_objsight_objsight_pe_dosMagic), ("example.com/objsight/objsight/pe.machines", laid_example_com_objsight_objsight_pe_machines)] }
/-- NO THEOREM (fmt's text is open here; it may be false): for the released tool's asking of the row's closed facts alone. THE STATEMENT IS 'LawS3135CModelToldSaid' (YbulkblxcFmtCards.lean). -/
def LawS3135CModelFormAsk : Prop := lawS3135CModelRow.holds Ybaf.pinned (OpenSpec.ofChange lawS3135CModelSpec)

/-- ITS FALSE NEIGHBOUR: 'it returns false'. Refute it at one input. -/
def lawS3135CModelWrong : ChangeSpec := { name := "lawS3135CModel", vars := ["example.com/objsight/objsight/pe.dosMagic", "example.com/objsight/objsight/pe.machines"], fn := fun _ => fun
  | [d1, d2, g1, g2] => { results := [.lit (.bool false)], args := [d1, d2], vars := [g1, g2] }
  | _ => none }
def LawS3135CModelWrongFormAsk : Prop := lawS3135CModelRow.holds Ybaf.pinned (OpenSpec.ofChange lawS3135CModelWrong)

/-- 'pe.LawS3135CImage': WHATEVER THE INPUT: true; the input reads as it did. -/
def lawS3135CImageSpec : ChangeSpec := { name := "lawS3135CImage", vars := ["example.com/objsight/objsight/pe.dosMagic", "example.com/objsight/objsight/pe.machines"], fn := fun _ => fun
  | [d1, d2, d3, d4, g1, g2] => { results := [.lit (.bool true)], args := [d1, d2, d3, d4], vars := [g1, g2] }
  | _ => none }
def lawS3135CImageRow : OpenClaim := { program := "ybulkblxcfmt", sum := "7947c122094008cc35e0a9617e03eba01b20b160ec05c534266deb3c3e58c2f0", func := "example.com/objsight/objsight/pe.LawS3135CImage", spec := "lawS3135CImage", stops := ["fmt.Sprintf", "fmt.errorf, its operands' methods called"], inPlace := ["fmt.errorf", "internal/reflectlite.ValueOf", "(internal/reflectlite.Value).Type", "(internal/reflectlite.Value).IsNil", "internal/reflectlite.TypeOf", "(internal/reflectlite.Value).Elem", "(internal/reflectlite.Value).Set"], unfollowed := true, recurses := true, named := ["example.com/objsight/objsight/pe.dosMagic", "example.com/objsight/objsight/pe.machines", "encoding/binary.LittleEndian", "io.EOF", "io.ErrUnexpectedEOF", "errors.errorType"], maps := true, apart := false, laid := [("errors.errorType", laid_errors_errorType), ("io.EOF", laid_io_EOF), ("io.ErrUnexpectedEOF", laid_io_ErrUnexpectedEOF), ("example.com/objsight/objsight/pe.dosMagic", laid_example_com_objsight_objsight_pe_dosMagic), ("example.com/objsight/objsight/pe.machines", laid_example_com_objsight_objsight_pe_machines)] }
/-- NO THEOREM (fmt's text is open here; it may be false): for the released tool's asking of the row's closed facts alone. THE STATEMENT IS 'LawS3135CImageToldSaid' (YbulkblxcFmtCards.lean). -/
def LawS3135CImageFormAsk : Prop := lawS3135CImageRow.holds Ybaf.pinned (OpenSpec.ofChange lawS3135CImageSpec)

/-- ITS FALSE NEIGHBOUR: 'it returns false'. Refute it at one input. -/
def lawS3135CImageWrong : ChangeSpec := { name := "lawS3135CImage", vars := ["example.com/objsight/objsight/pe.dosMagic", "example.com/objsight/objsight/pe.machines"], fn := fun _ => fun
  | [d1, d2, d3, d4, g1, g2] => { results := [.lit (.bool false)], args := [d1, d2, d3, d4], vars := [g1, g2] }
  | _ => none }
def LawS3135CImageWrongFormAsk : Prop := lawS3135CImageRow.holds Ybaf.pinned (OpenSpec.ofChange lawS3135CImageWrong)

/-- 'pe.LawS3135CObject': WHATEVER THE INPUT: true; the input reads as it did. -/
def lawS3135CObjectSpec : ChangeSpec := { name := "lawS3135CObject", vars := ["example.com/objsight/objsight/pe.dosMagic", "example.com/objsight/objsight/pe.machines"], fn := fun _ => fun
  | [d1, d2, d3, g1, g2] => { results := [.lit (.bool true)], args := [d1, d2, d3], vars := [g1, g2] }
  | _ => none }
def lawS3135CObjectRow : OpenClaim := { program := "ybulkblxcfmt", sum := "7947c122094008cc35e0a9617e03eba01b20b160ec05c534266deb3c3e58c2f0", func := "example.com/objsight/objsight/pe.LawS3135CObject", spec := "lawS3135CObject", stops := ["fmt.Sprintf", "fmt.errorf, its operands' methods called"], inPlace := ["fmt.errorf", "internal/reflectlite.ValueOf", "(internal/reflectlite.Value).Type", "(internal/reflectlite.Value).IsNil", "internal/reflectlite.TypeOf", "(internal/reflectlite.Value).Elem", "(internal/reflectlite.Value).Set"], unfollowed := true, recurses := true, named := ["example.com/objsight/objsight/pe.dosMagic", "example.com/objsight/objsight/pe.machines", "encoding/binary.LittleEndian", "io.EOF", "io.ErrUnexpectedEOF", "errors.errorType"], maps := true, apart := false, laid := [("errors.errorType", laid_errors_errorType), ("io.EOF", laid_io_EOF), ("io.ErrUnexpectedEOF", laid_io_ErrUnexpectedEOF), ("example.com/objsight/objsight/pe.dosMagic", laid_example_com_objsight_objsight_pe_dosMagic), ("example.com/objsight/objsight/pe.machines", laid_example_com_objsight_objsight_pe_machines)] }
/-- NO THEOREM (fmt's text is open here; it may be false): for the released tool's asking of the row's closed facts alone. THE STATEMENT IS 'LawS3135CObjectToldSaid' (YbulkblxcFmtCards.lean). -/
def LawS3135CObjectFormAsk : Prop := lawS3135CObjectRow.holds Ybaf.pinned (OpenSpec.ofChange lawS3135CObjectSpec)

/-- ITS FALSE NEIGHBOUR: 'it returns false'. Refute it at one input. -/
def lawS3135CObjectWrong : ChangeSpec := { name := "lawS3135CObject", vars := ["example.com/objsight/objsight/pe.dosMagic", "example.com/objsight/objsight/pe.machines"], fn := fun _ => fun
  | [d1, d2, d3, g1, g2] => { results := [.lit (.bool false)], args := [d1, d2, d3], vars := [g1, g2] }
  | _ => none }
def LawS3135CObjectWrongFormAsk : Prop := lawS3135CObjectRow.holds Ybaf.pinned (OpenSpec.ofChange lawS3135CObjectWrong)

end Rows
end Go.Proofs.YbulkblxcFmt
