/-
  DERIVED. GIVEN WITH THE SEED: THE CARDS: each row of YthnfohpiiafciaaGreatFmtRows.lean that lists a variable, with what it lists TIED to the program's text (the seventh form; the later family's looks); each row that meets fmt, with fmt's text TOLD by the authors' own Lean function (tested against real Go, not proved from fmt's source: count such statements apart). THE CARD IS WHAT COUNTS. Prove the row's statement (the work); the ties are given (YthnfohpiiafciaaGreatFmtTie.lean); close each card by the builder's one call (the guide's Derived/Test/ToyasCard.lean, 'card_holds'). Laid BY PROGRAM, IN A SANDBOX (cutbox-door.mjs). By AI agents, Wed Nov 11 2026. No macro, syntax, notation, axiom, sorry.
-/
import Derived.Test.YthnfohpiiafciaaGreatFmtRows
import GoSem.ClaimSeven
namespace Go.Proofs.YthnfohpiiafciaaGreatFmt
namespace Rows

/-- THE TOLD AND TIED CARD OF 'n011_203.FnLoadAsIndexEmptyDirFindsNothing'. -/
def fnLoadAsIndexEmptyDirFindsNothingCard : Claim7 := { stood := { row := fnLoadAsIndexEmptyDirFindsNothingRow, standIns := [], harness := (true, "b2e96080c11b7ed053e43e15af52e08b1611322a21da3f5b2d58543d5986dab9"), looks := false }, told := true, laidByText := true, laidKinds := [.data, .pinned, .pinned], laidTests := true, laidLooks := .later, goes := false }
def FnLoadAsIndexEmptyDirFindsNothingToldSaid : Prop := Claim7.holds Tryz.pinned (.plain (OpenSpec.ofChange fnLoadAsIndexEmptyDirFindsNothingSpec)) fnLoadAsIndexEmptyDirFindsNothingCard
/-- ITS FALSE NEIGHBOUR. Refute it at one input. -/
def FnLoadAsIndexEmptyDirFindsNothingToldWrongFalsely : Prop := Claim7.holds Tryz.pinned (.plain (OpenSpec.ofChange fnLoadAsIndexEmptyDirFindsNothingWrong)) fnLoadAsIndexEmptyDirFindsNothingCard

/-- THE TOLD AND TIED CARD OF 'n011_203.FnLoadAsIndexUnreadableDirFindsNothing'. -/
def fnLoadAsIndexUnreadableDirFindsNothingCard : Claim7 := { stood := { row := fnLoadAsIndexUnreadableDirFindsNothingRow, standIns := [], harness := (true, "b2e96080c11b7ed053e43e15af52e08b1611322a21da3f5b2d58543d5986dab9"), looks := false }, told := true, laidByText := true, laidKinds := [.data, .pinned, .pinned], laidTests := true, laidLooks := .later, goes := false }
def FnLoadAsIndexUnreadableDirFindsNothingToldSaid : Prop := Claim7.holds Tryz.pinned (.plain (OpenSpec.ofChange fnLoadAsIndexUnreadableDirFindsNothingSpec)) fnLoadAsIndexUnreadableDirFindsNothingCard
/-- ITS FALSE NEIGHBOUR. Refute it at one input. -/
def FnLoadAsIndexUnreadableDirFindsNothingToldWrongFalsely : Prop := Claim7.holds Tryz.pinned (.plain (OpenSpec.ofChange fnLoadAsIndexUnreadableDirFindsNothingWrong)) fnLoadAsIndexUnreadableDirFindsNothingCard
end Rows
end Go.Proofs.YthnfohpiiafciaaGreatFmt
