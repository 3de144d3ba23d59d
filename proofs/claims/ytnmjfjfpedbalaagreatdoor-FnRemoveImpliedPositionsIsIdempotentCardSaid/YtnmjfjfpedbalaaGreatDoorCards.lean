/-
  DERIVED. GIVEN WITH THE SEED: THE CARDS: each row of YtnmjfjfpedbalaaGreatDoorRows.lean that lists a variable, with what it lists TIED to the program's text (the seventh form; the later family's looks); each row that meets fmt, with fmt's text TOLD by the authors' own Lean function (tested against real Go, not proved from fmt's source: count such statements apart). THE CARD IS WHAT COUNTS. Prove the row's statement (the work); the ties are given (YtnmjfjfpedbalaaGreatDoorTie.lean); close each card by the builder's one call (the guide's Derived/Test/ToyasCard.lean, 'card_holds'). Laid BY PROGRAM, IN A SANDBOX (cutbox-door.mjs). By AI agents, Wed Nov 11 2026. No macro, syntax, notation, axiom, sorry.
-/
import Derived.Test.YtnmjfjfpedbalaaGreatDoorRows
import GoSem.ClaimSeven
namespace Go.Proofs.YtnmjfjfpedbalaaGreatDoor
namespace Rows

/-- THE TIED CARD OF 'n011_258.FnRemoveImpliedPositionsIsIdempotent'. -/
def fnRemoveImpliedPositionsIsIdempotentCard : Claim7 := { stood := { row := fnRemoveImpliedPositionsIsIdempotentRow, standIns := [], harness := (true, "10028a65fbbb17e22508fc1306760415315ec2ba4c8e502fe0671070d8ba90c6"), looks := true }, kinds := [], alts := [], laidByText := true, laidKinds := [.data, .data, .widerDeep, .widerDeep, .data, .data, .data, .data, .data, .sentinel, .sentinel, .pinned, .pinned], laidTests := true, laidLooks := .later }
def FnRemoveImpliedPositionsIsIdempotentCardSaid : Prop := Claim7.holds Tryz.pinned (.plain (OpenSpec.ofChange fnRemoveImpliedPositionsIsIdempotentSpec)) fnRemoveImpliedPositionsIsIdempotentCard

/-- THE SECOND FORM's CARD OF 'n011_258.FnRemoveImpliedPositionsIsIdempotent'. -/
def fnRemoveImpliedPositionsIsIdempotentUptoCard : Claim7 := { stood := { row := fnRemoveImpliedPositionsIsIdempotentUptoRow, standIns := [], harness := (true, "10028a65fbbb17e22508fc1306760415315ec2ba4c8e502fe0671070d8ba90c6"), looks := true }, kinds := [], alts := [], laidByText := true, laidKinds := [.data, .data, .widerDeep, .widerDeep, .data, .data, .data, .data, .data, .sentinel, .sentinel, .pinned, .pinned], laidTests := true, laidLooks := .later }
def FnRemoveImpliedPositionsIsIdempotentUptoCardSaid : Prop := Claim7.holds Tryz.pinned (.plain (OpenSpec.upto fnRemoveImpliedPositionsIsIdempotentSpec)) fnRemoveImpliedPositionsIsIdempotentUptoCard
end Rows
end Go.Proofs.YtnmjfjfpedbalaaGreatDoor
