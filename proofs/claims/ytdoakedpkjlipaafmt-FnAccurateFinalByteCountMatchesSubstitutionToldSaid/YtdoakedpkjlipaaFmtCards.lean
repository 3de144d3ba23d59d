/-
  DERIVED. GIVEN WITH THE SEED: THE CARDS: each row of YtdoakedpkjlipaaFmtRows.lean that lists a variable, with what it lists TIED to the program's text (the seventh form; the later family's looks); each row that meets fmt, with fmt's text TOLD by the authors' own Lean function (tested against real Go, not proved from fmt's source: count such statements apart). THE CARD IS WHAT COUNTS. Prove the row's statement (the work); the ties are given (YtdoakedpkjlipaaFmtTie.lean); close each card by the builder's one call (the guide's Derived/Test/ToyasCard.lean, 'card_holds'). Laid BY PROGRAM, IN A SANDBOX (cutbox-door.mjs). By AI agents, Wed Nov 11 2026. No macro, syntax, notation, axiom, sorry.
-/
import Derived.Test.YtdoakedpkjlipaaFmtRows
import GoSem.ClaimSeven
namespace Go.Proofs.YtdoakedpkjlipaaFmt
namespace Rows

/-- THE TOLD AND TIED CARD OF 'n011_246.FnAccurateFinalByteCountMatchesSubstitution'. -/
def fnAccurateFinalByteCountMatchesSubstitutionCard : Claim7 := { stood := { row := fnAccurateFinalByteCountMatchesSubstitutionRow, standIns := [], harness := (true, "a348d8baa35a2c9386e1518bd1c9247fa60af8187c5a2624de8a9d00ca6dd993"), looks := false }, told := true, laidByText := true, laidKinds := [.data, .pinned], laidTests := true, laidLooks := .later, goes := false }
def FnAccurateFinalByteCountMatchesSubstitutionToldSaid : Prop := Claim7.holds Tryf.pinned (.plain (OpenSpec.ofChange fnAccurateFinalByteCountMatchesSubstitutionSpec)) fnAccurateFinalByteCountMatchesSubstitutionCard
/-- ITS FALSE NEIGHBOUR. Refute it at one input. -/
def FnAccurateFinalByteCountMatchesSubstitutionToldWrongFalsely : Prop := Claim7.holds Tryf.pinned (.plain (OpenSpec.ofChange fnAccurateFinalByteCountMatchesSubstitutionWrong)) fnAccurateFinalByteCountMatchesSubstitutionCard
end Rows
end Go.Proofs.YtdoakedpkjlipaaFmt
