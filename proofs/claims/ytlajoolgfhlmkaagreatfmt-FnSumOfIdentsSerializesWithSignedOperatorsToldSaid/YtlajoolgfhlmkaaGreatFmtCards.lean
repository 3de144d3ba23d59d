/-
  DERIVED. GIVEN WITH THE SEED: THE CARDS: each row of YtlajoolgfhlmkaaGreatFmtRows.lean that lists a variable, with what it lists TIED to the program's text (the seventh form; the later family's looks); each row that meets fmt, with fmt's text TOLD by the authors' own Lean function (tested against real Go, not proved from fmt's source: count such statements apart). THE CARD IS WHAT COUNTS. Prove the row's statement (the work); the ties are given (YtlajoolgfhlmkaaGreatFmtTie.lean); close each card by the builder's one call (the guide's Derived/Test/ToyasCard.lean, 'card_holds'). Laid BY PROGRAM, IN A SANDBOX (cutbox-door.mjs). By AI agents, Wed Nov 11 2026. No macro, syntax, notation, axiom, sorry.
-/
import Derived.Test.YtlajoolgfhlmkaaGreatFmtRows
import GoSem.ClaimSeven
namespace Go.Proofs.YtlajoolgfhlmkaaGreatFmt
namespace Rows

/-- THE TOLD AND TIED CARD OF 'n011_183.FnSumOfIdentsSerializesWithSignedOperators'. -/
def fnSumOfIdentsSerializesWithSignedOperatorsCard : Claim7 := { stood := { row := fnSumOfIdentsSerializesWithSignedOperatorsRow, standIns := [], harness := (true, "bdb6560b4c58bd77c29c589c33d60457470e5e80b102826188d77883f0c7ea95"), looks := true }, told := true, laidByText := true, laidKinds := [.data, .data, .widerDeep, .widerDeep, .data, .data, .data, .data, .data, .sentinel, .sentinel, .pinned, .pinned], laidTests := true, laidLooks := .later, goes := false }
def FnSumOfIdentsSerializesWithSignedOperatorsToldSaid : Prop := Claim7.holds Tryz.pinned (.plain (OpenSpec.ofChange fnSumOfIdentsSerializesWithSignedOperatorsSpec)) fnSumOfIdentsSerializesWithSignedOperatorsCard
/-- ITS FALSE NEIGHBOUR. Refute it at one input. -/
def FnSumOfIdentsSerializesWithSignedOperatorsToldWrongFalsely : Prop := Claim7.holds Tryz.pinned (.plain (OpenSpec.ofChange fnSumOfIdentsSerializesWithSignedOperatorsWrong)) fnSumOfIdentsSerializesWithSignedOperatorsCard
end Rows
end Go.Proofs.YtlajoolgfhlmkaaGreatFmt
