/-
  DERIVED. GIVEN WITH THE SEED: THE CARDS: each row of YtkajkfopnkgoaaaFmtRows.lean that lists a variable, with what it lists TIED to the program's text (the seventh form; the later family's looks); each row that meets fmt, with fmt's text TOLD by the authors' own Lean function (tested against real Go, not proved from fmt's source: count such statements apart). THE CARD IS WHAT COUNTS. Prove the row's statement (the work); the ties are given (YtkajkfopnkgoaaaFmtTie.lean); close each card by the builder's one call (the guide's Derived/Test/ToyasCard.lean, 'card_holds'). Laid BY PROGRAM, IN A SANDBOX (cutbox-door.mjs). By AI agents, Wed Nov 11 2026. No macro, syntax, notation, axiom, sorry.
-/
import Derived.Test.YtkajkfopnkgoaaaFmtRows
import GoSem.ClaimSeven
namespace Go.Proofs.YtkajkfopnkgoaaaFmt
namespace Rows

/-- THE TOLD AND TIED CARD OF 'n011_178.FnLowerAlphaPercentageIntegerModel'. -/
def fnLowerAlphaPercentageIntegerModelCard : Claim7 := { stood := { row := fnLowerAlphaPercentageIntegerModelRow, standIns := [], harness := (true, "b2603e877420e90172011f73c790a082a7681915dcdc67b8cd68c94229211e45"), looks := true }, told := true, laidByText := true, laidKinds := [.data, .data, .widerDeep, .widerDeep, .data, .data, .data, .data, .data, .sentinel, .sentinel, .pinned, .pinned], laidTests := true, laidLooks := .later, goes := false }
def FnLowerAlphaPercentageIntegerModelToldSaid : Prop := Claim7.holds Tryf.pinned (.plain (OpenSpec.ofChange fnLowerAlphaPercentageIntegerModelSpec)) fnLowerAlphaPercentageIntegerModelCard
/-- ITS FALSE NEIGHBOUR. Refute it at one input. -/
def FnLowerAlphaPercentageIntegerModelToldWrongFalsely : Prop := Claim7.holds Tryf.pinned (.plain (OpenSpec.ofChange fnLowerAlphaPercentageIntegerModelWrong)) fnLowerAlphaPercentageIntegerModelCard

/-- THE TOLD AND TIED CARD OF 'n011_178.FnLowerAlphaPercentageLeavesOthersAlone'. -/
def fnLowerAlphaPercentageLeavesOthersAloneCard : Claim7 := { stood := { row := fnLowerAlphaPercentageLeavesOthersAloneRow, standIns := [], harness := (true, "b2603e877420e90172011f73c790a082a7681915dcdc67b8cd68c94229211e45"), looks := true }, told := true, laidByText := true, laidKinds := [.data, .data, .widerDeep, .widerDeep, .data, .data, .data, .data, .data, .sentinel, .sentinel, .pinned, .pinned], laidTests := true, laidLooks := .later, goes := false }
def FnLowerAlphaPercentageLeavesOthersAloneToldSaid : Prop := Claim7.holds Tryf.pinned (.plain (OpenSpec.ofChange fnLowerAlphaPercentageLeavesOthersAloneSpec)) fnLowerAlphaPercentageLeavesOthersAloneCard
/-- ITS FALSE NEIGHBOUR. Refute it at one input. -/
def FnLowerAlphaPercentageLeavesOthersAloneToldWrongFalsely : Prop := Claim7.holds Tryf.pinned (.plain (OpenSpec.ofChange fnLowerAlphaPercentageLeavesOthersAloneWrong)) fnLowerAlphaPercentageLeavesOthersAloneCard
end Rows
end Go.Proofs.YtkajkfopnkgoaaaFmt
