/-
  DERIVED. GIVEN WITH THE SEED: THE CARDS: each row of YtokehapgddicjaaGreatFmtRows.lean that lists a variable, with what it lists TIED to the program's text (the seventh form; the later family's looks); each row that meets fmt, with fmt's text TOLD by the authors' own Lean function (tested against real Go, not proved from fmt's source: count such statements apart). THE CARD IS WHAT COUNTS. Prove the row's statement (the work); the ties are given (YtokehapgddicjaaGreatFmtTie.lean); close each card by the builder's one call (the guide's Derived/Test/ToyasCard.lean, 'card_holds'). Laid BY PROGRAM, IN A SANDBOX (cutbox-door.mjs). By AI agents, Wed Nov 11 2026. No macro, syntax, notation, axiom, sorry.
-/
import Derived.Test.YtokehapgddicjaaGreatFmtRows
import GoSem.ClaimSeven
namespace Go.Proofs.YtokehapgddicjaaGreatFmt
namespace Rows

/-- THE TOLD AND TIED CARD OF 'n011_196.FnMangleLocalCSSFrequentGetNoLongerNames'. -/
def fnMangleLocalCSSFrequentGetNoLongerNamesCard : Claim7 := { stood := { row := fnMangleLocalCSSFrequentGetNoLongerNamesRow, standIns := [], harness := (true, "9a263bc29b1dc700eaa1d08f412a53f72446f8c0c891ff1f2e03692baedd18fe"), looks := true }, told := true, laidByText := true, laidKinds := [.data, .data, .data, .data], laidTests := true, laidLooks := .later, goes := false }
def FnMangleLocalCSSFrequentGetNoLongerNamesToldSaid : Prop := Claim7.holds Tryz.pinned (.plain (OpenSpec.ofChange fnMangleLocalCSSFrequentGetNoLongerNamesSpec)) fnMangleLocalCSSFrequentGetNoLongerNamesCard
/-- ITS FALSE NEIGHBOUR. Refute it at one input. -/
def FnMangleLocalCSSFrequentGetNoLongerNamesToldWrongFalsely : Prop := Claim7.holds Tryz.pinned (.plain (OpenSpec.ofChange fnMangleLocalCSSFrequentGetNoLongerNamesWrong)) fnMangleLocalCSSFrequentGetNoLongerNamesCard

/-- THE TOLD AND TIED CARD OF 'n011_196.FnMangleLocalCSSMinifiedNamesAreFreshAndDistinct'. -/
def fnMangleLocalCSSMinifiedNamesAreFreshAndDistinctCard : Claim7 := { stood := { row := fnMangleLocalCSSMinifiedNamesAreFreshAndDistinctRow, standIns := [], harness := (true, "9a263bc29b1dc700eaa1d08f412a53f72446f8c0c891ff1f2e03692baedd18fe"), looks := true }, told := true, laidByText := true, laidKinds := [.data, .data, .data, .data], laidTests := true, laidLooks := .later, goes := false }
def FnMangleLocalCSSMinifiedNamesAreFreshAndDistinctToldSaid : Prop := Claim7.holds Tryz.pinned (.plain (OpenSpec.ofChange fnMangleLocalCSSMinifiedNamesAreFreshAndDistinctSpec)) fnMangleLocalCSSMinifiedNamesAreFreshAndDistinctCard
/-- ITS FALSE NEIGHBOUR. Refute it at one input. -/
def FnMangleLocalCSSMinifiedNamesAreFreshAndDistinctToldWrongFalsely : Prop := Claim7.holds Tryz.pinned (.plain (OpenSpec.ofChange fnMangleLocalCSSMinifiedNamesAreFreshAndDistinctWrong)) fnMangleLocalCSSMinifiedNamesAreFreshAndDistinctCard

/-- THE TOLD AND TIED CARD OF 'n011_196.FnMangleLocalCSSReadableNamesMatchModel'. -/
def fnMangleLocalCSSReadableNamesMatchModelCard : Claim7 := { stood := { row := fnMangleLocalCSSReadableNamesMatchModelRow, standIns := [], harness := (true, "9a263bc29b1dc700eaa1d08f412a53f72446f8c0c891ff1f2e03692baedd18fe"), looks := true }, told := true, laidByText := true, laidKinds := [.data, .data, .data, .data], laidTests := true, laidLooks := .later, goes := false }
def FnMangleLocalCSSReadableNamesMatchModelToldSaid : Prop := Claim7.holds Tryz.pinned (.plain (OpenSpec.ofChange fnMangleLocalCSSReadableNamesMatchModelSpec)) fnMangleLocalCSSReadableNamesMatchModelCard
/-- ITS FALSE NEIGHBOUR. Refute it at one input. -/
def FnMangleLocalCSSReadableNamesMatchModelToldWrongFalsely : Prop := Claim7.holds Tryz.pinned (.plain (OpenSpec.ofChange fnMangleLocalCSSReadableNamesMatchModelWrong)) fnMangleLocalCSSReadableNamesMatchModelCard
end Rows
end Go.Proofs.YtokehapgddicjaaGreatFmt
