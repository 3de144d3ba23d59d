/-
  DERIVED. GIVEN WITH THE SEED: THE CARDS: each row of YtkajkfopnkgoaaaDoorRows.lean that lists a variable, with what it lists TIED to the program's text (the seventh form; the later family's looks); each row that meets fmt, with fmt's text TOLD by the authors' own Lean function (tested against real Go, not proved from fmt's source: count such statements apart). THE CARD IS WHAT COUNTS. Prove the row's statement (the work); the ties are given (YtkajkfopnkgoaaaDoorTie.lean); close each card by the builder's one call (the guide's Derived/Test/ToyasCard.lean, 'card_holds'). Laid BY PROGRAM, IN A SANDBOX (cutbox-door.mjs). By AI agents, Wed Nov 11 2026. No macro, syntax, notation, axiom, sorry.
-/
import Derived.Test.YtkajkfopnkgoaaaDoorRows
import GoSem.ClaimSeven
namespace Go.Proofs.YtkajkfopnkgoaaaDoor
namespace Rows

/-- THE TIED CARD OF 'n011_178.FnDegreesForAngleUnitAgreementAndRefusal'. -/
def fnDegreesForAngleUnitAgreementAndRefusalCard : Claim7 := { stood := { row := fnDegreesForAngleUnitAgreementAndRefusalRow, standIns := [], harness := (true, "f71081f4765aba78217914174e23758021bf529644874ea73b839060d561b391"), looks := true }, kinds := [], alts := [], laidByText := true, laidKinds := [.data, .data, .widerDeep, .widerDeep, .data, .data, .data, .data, .data, .sentinel, .sentinel, .pinned, .pinned], laidTests := true, laidLooks := .later }
def FnDegreesForAngleUnitAgreementAndRefusalCardSaid : Prop := Claim7.holds Tryd.pinned (.plain (OpenSpec.ofChange fnDegreesForAngleUnitAgreementAndRefusalSpec)) fnDegreesForAngleUnitAgreementAndRefusalCard

/-- THE TIED CARD OF 'n011_178.FnDegreesForAngleIntegerUnitTable'. -/
def fnDegreesForAngleIntegerUnitTableCard : Claim7 := { stood := { row := fnDegreesForAngleIntegerUnitTableRow, standIns := [], harness := (true, "f71081f4765aba78217914174e23758021bf529644874ea73b839060d561b391"), looks := true }, kinds := [], alts := [], laidByText := true, laidKinds := [.data, .data, .widerDeep, .widerDeep, .data, .data, .data, .data, .data, .sentinel, .sentinel, .pinned, .pinned], laidTests := true, laidLooks := .later }
def FnDegreesForAngleIntegerUnitTableCardSaid : Prop := Claim7.holds Tryd.pinned (.plain (OpenSpec.ofChange fnDegreesForAngleIntegerUnitTableSpec)) fnDegreesForAngleIntegerUnitTableCard

/-- THE SECOND FORM's CARD OF 'n011_178.FnDegreesForAngleUnitAgreementAndRefusal'. -/
def fnDegreesForAngleUnitAgreementAndRefusalUptoCard : Claim7 := { stood := { row := fnDegreesForAngleUnitAgreementAndRefusalUptoRow, standIns := [], harness := (true, "f71081f4765aba78217914174e23758021bf529644874ea73b839060d561b391"), looks := true }, kinds := [], alts := [], laidByText := true, laidKinds := [.data, .data, .widerDeep, .widerDeep, .data, .data, .data, .data, .data, .sentinel, .sentinel, .pinned, .pinned], laidTests := true, laidLooks := .later }
def FnDegreesForAngleUnitAgreementAndRefusalUptoCardSaid : Prop := Claim7.holds Tryd.pinned (.plain (OpenSpec.upto fnDegreesForAngleUnitAgreementAndRefusalSpec)) fnDegreesForAngleUnitAgreementAndRefusalUptoCard

/-- THE SECOND FORM's CARD OF 'n011_178.FnDegreesForAngleIntegerUnitTable'. -/
def fnDegreesForAngleIntegerUnitTableUptoCard : Claim7 := { stood := { row := fnDegreesForAngleIntegerUnitTableUptoRow, standIns := [], harness := (true, "f71081f4765aba78217914174e23758021bf529644874ea73b839060d561b391"), looks := true }, kinds := [], alts := [], laidByText := true, laidKinds := [.data, .data, .widerDeep, .widerDeep, .data, .data, .data, .data, .data, .sentinel, .sentinel, .pinned, .pinned], laidTests := true, laidLooks := .later }
def FnDegreesForAngleIntegerUnitTableUptoCardSaid : Prop := Claim7.holds Tryd.pinned (.plain (OpenSpec.upto fnDegreesForAngleIntegerUnitTableSpec)) fnDegreesForAngleIntegerUnitTableUptoCard
end Rows
end Go.Proofs.YtkajkfopnkgoaaaDoor
