/-
  DERIVED. GIVEN WITH THE SEED: THE CARDS: each row of YtodlhjdogcpffaaDoorRows.lean that lists a variable, with what it lists TIED to the program's text (the seventh form; the later family's looks); each row that meets fmt, with fmt's text TOLD by the authors' own Lean function (tested against real Go, not proved from fmt's source: count such statements apart). THE CARD IS WHAT COUNTS. Prove the row's statement (the work); the ties are given (YtodlhjdogcpffaaDoorTie.lean); close each card by the builder's one call (the guide's Derived/Test/ToyasCard.lean, 'card_holds'). Laid BY PROGRAM, IN A SANDBOX (cutbox-door.mjs). By AI agents, Wed Nov 11 2026. No macro, syntax, notation, axiom, sorry.
-/
import Derived.Test.YtodlhjdogcpffaaDoorRows
import GoSem.ClaimSeven
namespace Go.Proofs.YtodlhjdogcpffaaDoor
namespace Rows

/-- THE TIED CARD OF 'n011_277.FnFormatFloatDecimalFractionsExact'. -/
def fnFormatFloatDecimalFractionsExactCard : Claim7 := { stood := { row := fnFormatFloatDecimalFractionsExactRow, standIns := [], harness := (true, "d2885716cb4b4dd7cdbbb49beaa3b04138e9958fe5492cc0dad04f644f07f85e"), looks := true }, kinds := [], alts := [], laidByText := true, laidKinds := [.data, .data, .data, .data, .pinned, .pinned], laidTests := true, laidLooks := .later }
def FnFormatFloatDecimalFractionsExactCardSaid : Prop := Claim7.holds Tryd.pinned (.plain (OpenSpec.ofChange fnFormatFloatDecimalFractionsExactSpec)) fnFormatFloatDecimalFractionsExactCard

/-- THE TIED CARD OF 'n011_277.FnMakeDimensionOrPercentTokenExact'. -/
def fnMakeDimensionOrPercentTokenExactCard : Claim7 := { stood := { row := fnMakeDimensionOrPercentTokenExactRow, standIns := [], harness := (true, "d2885716cb4b4dd7cdbbb49beaa3b04138e9958fe5492cc0dad04f644f07f85e"), looks := true }, kinds := [], alts := [], laidByText := true, laidKinds := [.data, .data, .data, .data, .pinned, .pinned], laidTests := true, laidLooks := .later }
def FnMakeDimensionOrPercentTokenExactCardSaid : Prop := Claim7.holds Tryd.pinned (.plain (OpenSpec.ofChange fnMakeDimensionOrPercentTokenExactSpec)) fnMakeDimensionOrPercentTokenExactCard

/-- THE TIED CARD OF 'n011_277.FnTryToParseValueCaseTable'. -/
def fnTryToParseValueCaseTableCard : Claim7 := { stood := { row := fnTryToParseValueCaseTableRow, standIns := [], harness := (true, "d2885716cb4b4dd7cdbbb49beaa3b04138e9958fe5492cc0dad04f644f07f85e"), looks := true }, kinds := [], alts := [], laidByText := true, laidKinds := [.data, .data, .widerDeep, .widerDeep, .data, .data, .data, .data, .data, .sentinel, .sentinel, .pinned, .pinned], laidTests := true, laidLooks := .later }
def FnTryToParseValueCaseTableCardSaid : Prop := Claim7.holds Tryd.pinned (.plain (OpenSpec.ofChange fnTryToParseValueCaseTableSpec)) fnTryToParseValueCaseTableCard

/-- THE TIED CARD OF 'n011_277.FnFormatFloatShape'. -/
def fnFormatFloatShapeCard : Claim7 := { stood := { row := fnFormatFloatShapeRow, standIns := [], harness := (true, "d2885716cb4b4dd7cdbbb49beaa3b04138e9958fe5492cc0dad04f644f07f85e"), looks := true }, kinds := [], alts := [], laidByText := true, laidKinds := [.data, .data, .data, .data, .pinned, .pinned], laidTests := true, laidLooks := .later }
def FnFormatFloatShapeCardSaid : Prop := Claim7.holds Tryd.pinned (.plain (OpenSpec.ofChange fnFormatFloatShapeSpec)) fnFormatFloatShapeCard

/-- THE SECOND FORM's CARD OF 'n011_277.FnFormatFloatDecimalFractionsExact'. -/
def fnFormatFloatDecimalFractionsExactUptoCard : Claim7 := { stood := { row := fnFormatFloatDecimalFractionsExactUptoRow, standIns := [], harness := (true, "d2885716cb4b4dd7cdbbb49beaa3b04138e9958fe5492cc0dad04f644f07f85e"), looks := true }, kinds := [], alts := [], laidByText := true, laidKinds := [.data, .data, .data, .data, .pinned, .pinned], laidTests := true, laidLooks := .later }
def FnFormatFloatDecimalFractionsExactUptoCardSaid : Prop := Claim7.holds Tryd.pinned (.plain (OpenSpec.upto fnFormatFloatDecimalFractionsExactSpec)) fnFormatFloatDecimalFractionsExactUptoCard

/-- THE SECOND FORM's CARD OF 'n011_277.FnMakeDimensionOrPercentTokenExact'. -/
def fnMakeDimensionOrPercentTokenExactUptoCard : Claim7 := { stood := { row := fnMakeDimensionOrPercentTokenExactUptoRow, standIns := [], harness := (true, "d2885716cb4b4dd7cdbbb49beaa3b04138e9958fe5492cc0dad04f644f07f85e"), looks := true }, kinds := [], alts := [], laidByText := true, laidKinds := [.data, .data, .data, .data, .pinned, .pinned], laidTests := true, laidLooks := .later }
def FnMakeDimensionOrPercentTokenExactUptoCardSaid : Prop := Claim7.holds Tryd.pinned (.plain (OpenSpec.upto fnMakeDimensionOrPercentTokenExactSpec)) fnMakeDimensionOrPercentTokenExactUptoCard

/-- THE SECOND FORM's CARD OF 'n011_277.FnTryToParseValueCaseTable'. -/
def fnTryToParseValueCaseTableUptoCard : Claim7 := { stood := { row := fnTryToParseValueCaseTableUptoRow, standIns := [], harness := (true, "d2885716cb4b4dd7cdbbb49beaa3b04138e9958fe5492cc0dad04f644f07f85e"), looks := true }, kinds := [], alts := [], laidByText := true, laidKinds := [.data, .data, .widerDeep, .widerDeep, .data, .data, .data, .data, .data, .sentinel, .sentinel, .pinned, .pinned], laidTests := true, laidLooks := .later }
def FnTryToParseValueCaseTableUptoCardSaid : Prop := Claim7.holds Tryd.pinned (.plain (OpenSpec.upto fnTryToParseValueCaseTableSpec)) fnTryToParseValueCaseTableUptoCard

/-- THE SECOND FORM's CARD OF 'n011_277.FnFormatFloatShape'. -/
def fnFormatFloatShapeUptoCard : Claim7 := { stood := { row := fnFormatFloatShapeUptoRow, standIns := [], harness := (true, "d2885716cb4b4dd7cdbbb49beaa3b04138e9958fe5492cc0dad04f644f07f85e"), looks := true }, kinds := [], alts := [], laidByText := true, laidKinds := [.data, .data, .data, .data, .pinned, .pinned], laidTests := true, laidLooks := .later }
def FnFormatFloatShapeUptoCardSaid : Prop := Claim7.holds Tryd.pinned (.plain (OpenSpec.upto fnFormatFloatShapeSpec)) fnFormatFloatShapeUptoCard
end Rows
end Go.Proofs.YtodlhjdogcpffaaDoor
