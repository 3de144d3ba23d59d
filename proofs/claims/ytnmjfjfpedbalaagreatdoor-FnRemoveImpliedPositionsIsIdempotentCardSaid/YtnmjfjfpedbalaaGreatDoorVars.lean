/- What atof64 reads, off the listed variables. -/
import Derived.Test.YtnmjfjfpedbalaaGreatDoorParseFrac
import Derived.Deep.Strs
import Derived.ChangeArms
import Derived.MakeChecks
import Derived.DataShut
import Derived.Lib.LaidU8
namespace Go.Proofs.YtnmjfjfpedbalaaGreatDoor
open Go.RowKit Go.ChangeShapes Go.Deep
theorem fltVars_of_laid {laid : List (String × DataW Unit)} {W : World} (h : laidMetH Tryz.prog laid W) (hp : (laid.all fun x => x.2.handleName?.isNone) = true) (k1 k2 : Nat)
    (hm1 : laid[k1]? = some ("internal/strconv.float64info", .agg [.lit (.int .u64 52), .lit (.int .u64 11), .lit (.int .i64 (-1023))])) (hm2 : laid[k2]? = some ("internal/strconv.optimize", .lit (.bool true))) : FltVars W := by
  rw [MakeChecks.laidMetH_plain _ _ _ hp] at h
  constructor
  · obtain ⟨g', t', cs, fuel, p, h1, h2, h3, h4⟩ := Lib.laidMet.reads h (List.mem_of_getElem? hm1)
    have hg : Tryz.prog.globalNamed "internal/strconv.float64info" = some 5 := by kernel_rfl
    have ht : (Tryz.prog.globals[5]?).map (·.type) = some 105 := by kernel_rfl
    obtain rfl := Option.some.inj (hg.symm.trans h1)
    obtain rfl := Option.some.inj (ht.symm.trans h2)
    obtain ⟨y0, y1, y2, n, hx, _, hf, _, _⟩ := trod_struct3 Tryz.underlying105 h4
    have e0 := congrArg Prod.fst hx
    simp only [DataW.agg.injEq, List.cons.injEq] at e0
    obtain ⟨m, hm, hy, _⟩ := DataW.trod_int Tryz.underlying103 hf
    rw [hy] at e0
    have e1 := e0.1
    simp only [DataW.lit.injEq, Lit.int.injEq] at e1
    rw [World.var?_cell hg h3 0]
    obtain ⟨l⟩ := cs
    have hc : Tryz.prog.cellsOf 103 = 1 := by kernel_rfl
    simp only [List.drop_zero] at hm
    rw [hc] at hm
    cases l with
    | nil => simp at hm
    | cons v l =>
      simp at hm
      subst hm
      simp [← e1.2]
  · obtain ⟨g', t', cs, fuel, p, h1, h2, h3, h4⟩ := Lib.laidMet.reads h (List.mem_of_getElem? hm2)
    have hg : Tryz.prog.globalNamed "internal/strconv.optimize" = some 4 := by kernel_rfl
    have ht : (Tryz.prog.globals[4]?).map (·.type) = some 4 := by kernel_rfl
    obtain rfl := Option.some.inj (hg.symm.trans h1)
    obtain rfl := Option.some.inj (ht.symm.trans h2)
    obtain ⟨b, hb, hx⟩ := DataW.trod_bool Tryz.underlying4 h4
    have e0 := congrArg Prod.fst hx
    simp only [DataW.lit.injEq, Lit.bool.injEq] at e0
    rw [World.var?_cell hg h3 0]
    obtain ⟨l⟩ := cs
    simp only at hb
    subst hb
    simp [← e0]
end Go.Proofs.YtnmjfjfpedbalaaGreatDoor
