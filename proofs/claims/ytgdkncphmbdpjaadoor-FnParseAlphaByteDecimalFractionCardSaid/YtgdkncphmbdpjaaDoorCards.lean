/-
  DERIVED. GIVEN WITH THE SEED: THE CARDS: each row of YtgdkncphmbdpjaaDoorRows.lean that lists a variable, with what it lists TIED to the program's text (the seventh form; the later family's looks); each row that meets fmt, with fmt's text TOLD by the authors' own Lean function (tested against real Go, not proved from fmt's source: count such statements apart). THE CARD IS WHAT COUNTS. Prove the row's statement (the work); the ties are given (YtgdkncphmbdpjaaDoorTie.lean); close each card by the builder's one call (the guide's Derived/Test/ToyasCard.lean, 'card_holds'). Laid BY PROGRAM, IN A SANDBOX (cutbox-door.mjs). By AI agents, Wed Nov 11 2026. No macro, syntax, notation, axiom, sorry.
-/
import Derived.Test.YtgdkncphmbdpjaaDoorRows
import GoSem.ClaimSeven
namespace Go.Proofs.YtgdkncphmbdpjaaDoor
namespace Rows

/-- THE TIED CARD OF 'n011_130.FnParseColorByteIntegerNumberTimesScale'. -/
def fnParseColorByteIntegerNumberTimesScaleCard : Claim7 := { stood := { row := fnParseColorByteIntegerNumberTimesScaleRow, standIns := [], harness := (true, "764ab62c4b90e5c7e2073af432cdf9f5645fba9b6033ef630a172d760cf8dc48"), looks := true }, kinds := [], alts := [], laidByText := true, laidKinds := [.data, .data, .widerDeep, .widerDeep, .data, .data, .data, .data, .data, .sentinel, .sentinel, .pinned, .pinned], laidTests := true, laidLooks := .later }
def FnParseColorByteIntegerNumberTimesScaleCardSaid : Prop := Claim7.holds Tryd.pinned (.plain (OpenSpec.ofChange fnParseColorByteIntegerNumberTimesScaleSpec)) fnParseColorByteIntegerNumberTimesScaleCard

/-- THE TIED CARD OF 'n011_130.FnParseColorByteIntegerPercentIgnoresScale'. -/
def fnParseColorByteIntegerPercentIgnoresScaleCard : Claim7 := { stood := { row := fnParseColorByteIntegerPercentIgnoresScaleRow, standIns := [], harness := (true, "764ab62c4b90e5c7e2073af432cdf9f5645fba9b6033ef630a172d760cf8dc48"), looks := true }, kinds := [], alts := [], laidByText := true, laidKinds := [.data, .data, .widerDeep, .widerDeep, .data, .data, .data, .data, .data, .sentinel, .sentinel, .pinned, .pinned], laidTests := true, laidLooks := .later }
def FnParseColorByteIntegerPercentIgnoresScaleCardSaid : Prop := Claim7.holds Tryd.pinned (.plain (OpenSpec.ofChange fnParseColorByteIntegerPercentIgnoresScaleSpec)) fnParseColorByteIntegerPercentIgnoresScaleCard

/-- THE TIED CARD OF 'n011_130.FnParseColorByteRefusesNonNumericText'. -/
def fnParseColorByteRefusesNonNumericTextCard : Claim7 := { stood := { row := fnParseColorByteRefusesNonNumericTextRow, standIns := [], harness := (true, "764ab62c4b90e5c7e2073af432cdf9f5645fba9b6033ef630a172d760cf8dc48"), looks := true }, kinds := [], alts := [], laidByText := true, laidKinds := [.data, .data, .widerDeep, .widerDeep, .data, .data, .data, .data, .data, .sentinel, .sentinel, .pinned, .pinned], laidTests := true, laidLooks := .later }
def FnParseColorByteRefusesNonNumericTextCardSaid : Prop := Claim7.holds Tryd.pinned (.plain (OpenSpec.ofChange fnParseColorByteRefusesNonNumericTextSpec)) fnParseColorByteRefusesNonNumericTextCard

/-- THE TIED CARD OF 'n011_130.FnParseAlphaByteDecimalFraction'. -/
def fnParseAlphaByteDecimalFractionCard : Claim7 := { stood := { row := fnParseAlphaByteDecimalFractionRow, standIns := [], harness := (true, "764ab62c4b90e5c7e2073af432cdf9f5645fba9b6033ef630a172d760cf8dc48"), looks := true }, kinds := [], alts := [], laidByText := true, laidKinds := [.data, .data, .widerDeep, .widerDeep, .data, .data, .data, .data, .data, .sentinel, .sentinel, .pinned, .pinned], laidTests := true, laidLooks := .later }
def FnParseAlphaByteDecimalFractionCardSaid : Prop := Claim7.holds Tryd.pinned (.plain (OpenSpec.ofChange fnParseAlphaByteDecimalFractionSpec)) fnParseAlphaByteDecimalFractionCard

/-- THE TIED CARD OF 'n011_130.FnParseAlphaByteCaseTable'. -/
def fnParseAlphaByteCaseTableCard : Claim7 := { stood := { row := fnParseAlphaByteCaseTableRow, standIns := [], harness := (true, "764ab62c4b90e5c7e2073af432cdf9f5645fba9b6033ef630a172d760cf8dc48"), looks := true }, kinds := [], alts := [], laidByText := true, laidKinds := [.data, .data, .widerDeep, .widerDeep, .data, .data, .data, .data, .data, .sentinel, .sentinel, .pinned, .pinned], laidTests := true, laidLooks := .later }
def FnParseAlphaByteCaseTableCardSaid : Prop := Claim7.holds Tryd.pinned (.plain (OpenSpec.ofChange fnParseAlphaByteCaseTableSpec)) fnParseAlphaByteCaseTableCard

/-- THE SECOND FORM's CARD OF 'n011_130.FnParseColorByteIntegerNumberTimesScale'. -/
def fnParseColorByteIntegerNumberTimesScaleUptoCard : Claim7 := { stood := { row := fnParseColorByteIntegerNumberTimesScaleUptoRow, standIns := [], harness := (true, "764ab62c4b90e5c7e2073af432cdf9f5645fba9b6033ef630a172d760cf8dc48"), looks := true }, kinds := [], alts := [], laidByText := true, laidKinds := [.data, .data, .widerDeep, .widerDeep, .data, .data, .data, .data, .data, .sentinel, .sentinel, .pinned, .pinned], laidTests := true, laidLooks := .later }
def FnParseColorByteIntegerNumberTimesScaleUptoCardSaid : Prop := Claim7.holds Tryd.pinned (.plain (OpenSpec.upto fnParseColorByteIntegerNumberTimesScaleSpec)) fnParseColorByteIntegerNumberTimesScaleUptoCard

/-- THE SECOND FORM's CARD OF 'n011_130.FnParseColorByteIntegerPercentIgnoresScale'. -/
def fnParseColorByteIntegerPercentIgnoresScaleUptoCard : Claim7 := { stood := { row := fnParseColorByteIntegerPercentIgnoresScaleUptoRow, standIns := [], harness := (true, "764ab62c4b90e5c7e2073af432cdf9f5645fba9b6033ef630a172d760cf8dc48"), looks := true }, kinds := [], alts := [], laidByText := true, laidKinds := [.data, .data, .widerDeep, .widerDeep, .data, .data, .data, .data, .data, .sentinel, .sentinel, .pinned, .pinned], laidTests := true, laidLooks := .later }
def FnParseColorByteIntegerPercentIgnoresScaleUptoCardSaid : Prop := Claim7.holds Tryd.pinned (.plain (OpenSpec.upto fnParseColorByteIntegerPercentIgnoresScaleSpec)) fnParseColorByteIntegerPercentIgnoresScaleUptoCard

/-- THE SECOND FORM's CARD OF 'n011_130.FnParseColorByteRefusesNonNumericText'. -/
def fnParseColorByteRefusesNonNumericTextUptoCard : Claim7 := { stood := { row := fnParseColorByteRefusesNonNumericTextUptoRow, standIns := [], harness := (true, "764ab62c4b90e5c7e2073af432cdf9f5645fba9b6033ef630a172d760cf8dc48"), looks := true }, kinds := [], alts := [], laidByText := true, laidKinds := [.data, .data, .widerDeep, .widerDeep, .data, .data, .data, .data, .data, .sentinel, .sentinel, .pinned, .pinned], laidTests := true, laidLooks := .later }
def FnParseColorByteRefusesNonNumericTextUptoCardSaid : Prop := Claim7.holds Tryd.pinned (.plain (OpenSpec.upto fnParseColorByteRefusesNonNumericTextSpec)) fnParseColorByteRefusesNonNumericTextUptoCard

/-- THE SECOND FORM's CARD OF 'n011_130.FnParseAlphaByteDecimalFraction'. -/
def fnParseAlphaByteDecimalFractionUptoCard : Claim7 := { stood := { row := fnParseAlphaByteDecimalFractionUptoRow, standIns := [], harness := (true, "764ab62c4b90e5c7e2073af432cdf9f5645fba9b6033ef630a172d760cf8dc48"), looks := true }, kinds := [], alts := [], laidByText := true, laidKinds := [.data, .data, .widerDeep, .widerDeep, .data, .data, .data, .data, .data, .sentinel, .sentinel, .pinned, .pinned], laidTests := true, laidLooks := .later }
def FnParseAlphaByteDecimalFractionUptoCardSaid : Prop := Claim7.holds Tryd.pinned (.plain (OpenSpec.upto fnParseAlphaByteDecimalFractionSpec)) fnParseAlphaByteDecimalFractionUptoCard

/-- THE SECOND FORM's CARD OF 'n011_130.FnParseAlphaByteCaseTable'. -/
def fnParseAlphaByteCaseTableUptoCard : Claim7 := { stood := { row := fnParseAlphaByteCaseTableUptoRow, standIns := [], harness := (true, "764ab62c4b90e5c7e2073af432cdf9f5645fba9b6033ef630a172d760cf8dc48"), looks := true }, kinds := [], alts := [], laidByText := true, laidKinds := [.data, .data, .widerDeep, .widerDeep, .data, .data, .data, .data, .data, .sentinel, .sentinel, .pinned, .pinned], laidTests := true, laidLooks := .later }
def FnParseAlphaByteCaseTableUptoCardSaid : Prop := Claim7.holds Tryd.pinned (.plain (OpenSpec.upto fnParseAlphaByteCaseTableSpec)) fnParseAlphaByteCaseTableUptoCard
end Rows
end Go.Proofs.YtgdkncphmbdpjaaDoor
