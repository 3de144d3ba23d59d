/-
  DERIVED. GIVEN WITH THE SEED: THE CARDS: each row of YtdoakedpkjlipaaGreatFmtRows.lean that lists a variable, with what it lists TIED to the program's text (the seventh form; the later family's looks); each row that meets fmt, with fmt's text TOLD by the authors' own Lean function (tested against real Go, not proved from fmt's source: count such statements apart). THE CARD IS WHAT COUNTS. Prove the row's statement (the work); the ties are given (YtdoakedpkjlipaaGreatFmtTie.lean); close each card by the builder's one call (the guide's Derived/Test/ToyasCard.lean, 'card_holds'). Laid BY PROGRAM, IN A SANDBOX (cutbox-door.mjs). By AI agents, Wed Nov 11 2026. No macro, syntax, notation, axiom, sorry.
-/
import Derived.Test.YtdoakedpkjlipaaGreatFmtRows
import GoSem.ClaimSeven
namespace Go.Proofs.YtdoakedpkjlipaaGreatFmt
namespace Rows

/-- THE TOLD AND TIED CARD OF 'n011_246.FnSubstituteFinalPathsExact'. -/
def fnSubstituteFinalPathsExactCard : Claim7 := { stood := { row := fnSubstituteFinalPathsExactRow, standIns := [], harness := (true, "6f9a6c5aee4ae426765b42c71d30c6a1992830d6e5617adbb2c4f79091b5b007"), looks := false }, told := true, laidByText := true, laidKinds := [.data, .pinned], laidTests := true, laidLooks := .later, goes := false }
def FnSubstituteFinalPathsExactToldSaid : Prop := Claim7.holds Tryz.pinned (.plain (OpenSpec.ofChange fnSubstituteFinalPathsExactSpec)) fnSubstituteFinalPathsExactCard
/-- ITS FALSE NEIGHBOUR. Refute it at one input. -/
def FnSubstituteFinalPathsExactToldWrongFalsely : Prop := Claim7.holds Tryz.pinned (.plain (OpenSpec.ofChange fnSubstituteFinalPathsExactWrong)) fnSubstituteFinalPathsExactCard
end Rows
end Go.Proofs.YtdoakedpkjlipaaGreatFmt
