/-
  DERIVED. GIVEN WITH THE SEED: THE CARDS: each row of YtlbnenmdopcbjaaDoorRows.lean that lists a variable, with what it lists TIED to the program's text (the seventh form; the later family's looks); each row that meets fmt, with fmt's text TOLD by the authors' own Lean function (tested against real Go, not proved from fmt's source: count such statements apart). THE CARD IS WHAT COUNTS. Prove the row's statement (the work); the ties are given (YtlbnenmdopcbjaaDoorTie.lean); close each card by the builder's one call (the guide's Derived/Test/ToyasCard.lean, 'card_holds'). Laid BY PROGRAM, IN A SANDBOX (cutbox-door.mjs). By AI agents, Wed Nov 11 2026. No macro, syntax, notation, axiom, sorry.
-/
import Derived.Test.YtlbnenmdopcbjaaDoorRows
import GoSem.ClaimSeven
namespace Go.Proofs.YtlbnenmdopcbjaaDoor
namespace Rows

/-- THE TIED CARD OF 'n011_307.FnMangleRulesTopLevelDropsExactlyEmpty'. -/
def fnMangleRulesTopLevelDropsExactlyEmptyCard : Claim7 := { stood := { row := fnMangleRulesTopLevelDropsExactlyEmptyRow, standIns := [], harness := (true, "b17ef6a0bf52a815e969c861cd211699ecafd80abaef3df6bc32401af32b88c0"), looks := true }, kinds := [], alts := [], laidByText := true, laidKinds := [.mapped, .mapped], laidTests := true, laidLooks := .later }
def FnMangleRulesTopLevelDropsExactlyEmptyCardSaid : Prop := Claim7.holds Tryd.pinned (.plain (OpenSpec.ofChange fnMangleRulesTopLevelDropsExactlyEmptySpec)) fnMangleRulesTopLevelDropsExactlyEmptyCard

/-- THE TIED CARD OF 'n011_307.FnMangleRulesTopLevelIdempotent'. -/
def fnMangleRulesTopLevelIdempotentCard : Claim7 := { stood := { row := fnMangleRulesTopLevelIdempotentRow, standIns := [], harness := (true, "b17ef6a0bf52a815e969c861cd211699ecafd80abaef3df6bc32401af32b88c0"), looks := true }, kinds := [], alts := [], laidByText := true, laidKinds := [.mapped, .mapped], laidTests := true, laidLooks := .later }
def FnMangleRulesTopLevelIdempotentCardSaid : Prop := Claim7.holds Tryd.pinned (.plain (OpenSpec.ofChange fnMangleRulesTopLevelIdempotentSpec)) fnMangleRulesTopLevelIdempotentCard

/-- THE SECOND FORM's CARD OF 'n011_307.FnMangleRulesTopLevelDropsExactlyEmpty'. -/
def fnMangleRulesTopLevelDropsExactlyEmptyUptoCard : Claim7 := { stood := { row := fnMangleRulesTopLevelDropsExactlyEmptyUptoRow, standIns := [], harness := (true, "b17ef6a0bf52a815e969c861cd211699ecafd80abaef3df6bc32401af32b88c0"), looks := true }, kinds := [], alts := [], laidByText := true, laidKinds := [.mapped, .mapped], laidTests := true, laidLooks := .later }
def FnMangleRulesTopLevelDropsExactlyEmptyUptoCardSaid : Prop := Claim7.holds Tryd.pinned (.plain (OpenSpec.upto fnMangleRulesTopLevelDropsExactlyEmptySpec)) fnMangleRulesTopLevelDropsExactlyEmptyUptoCard

/-- THE SECOND FORM's CARD OF 'n011_307.FnMangleRulesTopLevelIdempotent'. -/
def fnMangleRulesTopLevelIdempotentUptoCard : Claim7 := { stood := { row := fnMangleRulesTopLevelIdempotentUptoRow, standIns := [], harness := (true, "b17ef6a0bf52a815e969c861cd211699ecafd80abaef3df6bc32401af32b88c0"), looks := true }, kinds := [], alts := [], laidByText := true, laidKinds := [.mapped, .mapped], laidTests := true, laidLooks := .later }
def FnMangleRulesTopLevelIdempotentUptoCardSaid : Prop := Claim7.holds Tryd.pinned (.plain (OpenSpec.upto fnMangleRulesTopLevelIdempotentSpec)) fnMangleRulesTopLevelIdempotentUptoCard
end Rows
end Go.Proofs.YtlbnenmdopcbjaaDoor
