/-
  DERIVED. GIVEN WITH THE SEED: THE CARDS: each row of YbulkblxcFmtRows.lean that lists a variable, with what it lists TIED to the program's text (the seventh form; the later family's looks); each row that meets fmt, with fmt's text TOLD by the authors' own Lean function (tested against real Go, not proved from fmt's source: count such statements apart). THE CARD IS WHAT COUNTS. Prove the row's statement (the work); the ties are given (YbulkblxcFmtTie.lean); close each card by the builder's one call (the guide's Derived/Test/ToyasCard.lean, 'card_holds'). Laid BY PROGRAM, IN A SANDBOX (cutbox-door.mjs). By AI agents, Wed Nov 11 2026. No macro, syntax, notation, axiom, sorry.
-/
import Derived.Test.YbulkblxcFmtRows
import GoSem.ClaimSeven
namespace Go.Proofs.YbulkblxcFmt
namespace Rows

/-- THE TOLD AND TIED CARD OF 'macho.LawS3135BList'. -/
def lawS3135BListCard : Claim7 := { stood := { row := lawS3135BListRow, standIns := [], harness := (true, "362f13b6ca895aa008b4e8b92b2d495860022734e787261640f670b868ccc076"), looks := true }, told := true, laidByText := true, laidKinds := [.handle, .sentinel, .sentinel, .mapped, .mapped], laidTests := true, laidLooks := .later, goes := false }
def LawS3135BListToldSaid : Prop := Claim7.holds Ybaf.pinned (.plain (OpenSpec.ofChange lawS3135BListSpec)) lawS3135BListCard
/-- ITS FALSE NEIGHBOUR. Refute it at one input. -/
def LawS3135BListToldWrongFalsely : Prop := Claim7.holds Ybaf.pinned (.plain (OpenSpec.ofChange lawS3135BListWrong)) lawS3135BListCard

/-- THE TOLD AND TIED CARD OF 'macho.LawS3135BRefuse'. -/
def lawS3135BRefuseCard : Claim7 := { stood := { row := lawS3135BRefuseRow, standIns := [], harness := (true, "362f13b6ca895aa008b4e8b92b2d495860022734e787261640f670b868ccc076"), looks := true }, told := true, laidByText := true, laidKinds := [.handle, .sentinel, .sentinel, .mapped, .mapped], laidTests := true, laidLooks := .later, goes := false }
def LawS3135BRefuseToldSaid : Prop := Claim7.holds Ybaf.pinned (.plain (OpenSpec.ofChange lawS3135BRefuseSpec)) lawS3135BRefuseCard
/-- ITS FALSE NEIGHBOUR. Refute it at one input. -/
def LawS3135BRefuseToldWrongFalsely : Prop := Claim7.holds Ybaf.pinned (.plain (OpenSpec.ofChange lawS3135BRefuseWrong)) lawS3135BRefuseCard

/-- THE TOLD AND TIED CARD OF 'pe.LawS3135CModel'. -/
def lawS3135CModelCard : Claim7 := { stood := { row := lawS3135CModelRow, standIns := [], harness := (true, "362f13b6ca895aa008b4e8b92b2d495860022734e787261640f670b868ccc076"), looks := true }, told := true, laidByText := true, laidKinds := [.handle, .sentinel, .sentinel, .widerDeep, .mapped], laidTests := true, laidLooks := .later, goes := false }
def LawS3135CModelToldSaid : Prop := Claim7.holds Ybaf.pinned (.plain (OpenSpec.ofChange lawS3135CModelSpec)) lawS3135CModelCard
/-- ITS FALSE NEIGHBOUR. Refute it at one input. -/
def LawS3135CModelToldWrongFalsely : Prop := Claim7.holds Ybaf.pinned (.plain (OpenSpec.ofChange lawS3135CModelWrong)) lawS3135CModelCard

/-- THE TOLD AND TIED CARD OF 'pe.LawS3135CImage'. -/
def lawS3135CImageCard : Claim7 := { stood := { row := lawS3135CImageRow, standIns := [], harness := (true, "362f13b6ca895aa008b4e8b92b2d495860022734e787261640f670b868ccc076"), looks := true }, told := true, laidByText := true, laidKinds := [.handle, .sentinel, .sentinel, .widerDeep, .mapped], laidTests := true, laidLooks := .later, goes := false }
def LawS3135CImageToldSaid : Prop := Claim7.holds Ybaf.pinned (.plain (OpenSpec.ofChange lawS3135CImageSpec)) lawS3135CImageCard
/-- ITS FALSE NEIGHBOUR. Refute it at one input. -/
def LawS3135CImageToldWrongFalsely : Prop := Claim7.holds Ybaf.pinned (.plain (OpenSpec.ofChange lawS3135CImageWrong)) lawS3135CImageCard

/-- THE TOLD AND TIED CARD OF 'pe.LawS3135CObject'. -/
def lawS3135CObjectCard : Claim7 := { stood := { row := lawS3135CObjectRow, standIns := [], harness := (true, "362f13b6ca895aa008b4e8b92b2d495860022734e787261640f670b868ccc076"), looks := true }, told := true, laidByText := true, laidKinds := [.handle, .sentinel, .sentinel, .widerDeep, .mapped], laidTests := true, laidLooks := .later, goes := false }
def LawS3135CObjectToldSaid : Prop := Claim7.holds Ybaf.pinned (.plain (OpenSpec.ofChange lawS3135CObjectSpec)) lawS3135CObjectCard
/-- ITS FALSE NEIGHBOUR. Refute it at one input. -/
def LawS3135CObjectToldWrongFalsely : Prop := Claim7.holds Ybaf.pinned (.plain (OpenSpec.ofChange lawS3135CObjectWrong)) lawS3135CObjectCard
end Rows
end Go.Proofs.YbulkblxcFmt
