/-
  DERIVED. GIVEN WITH THE SEED: THE CARDS: each row of YtodlhjdogcpffaaGreatDoorRows.lean that lists a variable, with what it lists TIED to the program's text (the seventh form; the later family's looks); each row that meets fmt, with fmt's text TOLD by the authors' own Lean function (tested against real Go, not proved from fmt's source: count such statements apart). THE CARD IS WHAT COUNTS. Prove the row's statement (the work); the ties are given (YtodlhjdogcpffaaGreatDoorTie.lean); close each card by the builder's one call (the guide's Derived/Test/ToyasCard.lean, 'card_holds'). Laid BY PROGRAM, IN A SANDBOX (cutbox-door.mjs). By AI agents, Wed Nov 11 2026. No macro, syntax, notation, axiom, sorry.
-/
import Derived.Test.YtodlhjdogcpffaaGreatDoorRows
import GoSem.ClaimSeven
namespace Go.Proofs.YtodlhjdogcpffaaGreatDoor
namespace Rows

/-- THE TIED CARD OF 'n011_277.FnMakeDimensionOrPercentTokenParsesBack'. -/
def fnMakeDimensionOrPercentTokenParsesBackCard : Claim7 := { stood := { row := fnMakeDimensionOrPercentTokenParsesBackRow, standIns := [], harness := (true, "2c35a085ef05fb8beccc8b9f9dcf7db309dbc46ee9ff5fb72e24a0f329d27a82"), looks := true }, kinds := [], alts := [], laidByText := true, laidKinds := [.data, .data, .widerDeep, .widerDeep, .data, .data, .data, .data, .data, .sentinel, .sentinel, .pinned, .pinned], laidTests := true, laidLooks := .later }
def FnMakeDimensionOrPercentTokenParsesBackCardSaid : Prop := Claim7.holds Tryz.pinned (.plain (OpenSpec.ofChange fnMakeDimensionOrPercentTokenParsesBackSpec)) fnMakeDimensionOrPercentTokenParsesBackCard

/-- THE SECOND FORM's CARD OF 'n011_277.FnMakeDimensionOrPercentTokenParsesBack'. -/
def fnMakeDimensionOrPercentTokenParsesBackUptoCard : Claim7 := { stood := { row := fnMakeDimensionOrPercentTokenParsesBackUptoRow, standIns := [], harness := (true, "2c35a085ef05fb8beccc8b9f9dcf7db309dbc46ee9ff5fb72e24a0f329d27a82"), looks := true }, kinds := [], alts := [], laidByText := true, laidKinds := [.data, .data, .widerDeep, .widerDeep, .data, .data, .data, .data, .data, .sentinel, .sentinel, .pinned, .pinned], laidTests := true, laidLooks := .later }
def FnMakeDimensionOrPercentTokenParsesBackUptoCardSaid : Prop := Claim7.holds Tryz.pinned (.plain (OpenSpec.upto fnMakeDimensionOrPercentTokenParsesBackSpec)) fnMakeDimensionOrPercentTokenParsesBackUptoCard
end Rows
end Go.Proofs.YtodlhjdogcpffaaGreatDoor
