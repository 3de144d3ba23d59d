/- FnFormatFloatDecimalFractionsExact: the walk. -/
import Derived.Test.YtodlhjdogcpffaaGreatDoorFmtLaw
namespace Go.Proofs.YtodlhjdogcpffaaGreatDoor
open Go.RowKit

theorem quo_word (m : Int) (d : Nat) (hd1 : 1 ≤ d) (hd : d ≤ 4) (hM : m.natAbs ≤ 1099511627776) : floatBits .quo .f64 (floatOfInt .f64 m) (fint false (10 ^ d)) = some (fword (decide (m < 0)) m.natAbs d) := by
  have e : floatOfInt .f64 m = fint (decide (m < 0)) m.natAbs := rfl
  rw [e]
  unfold fword
  by_cases h0 : m.natAbs = 0
  · have : m = 0 := by omega
    rw [if_pos h0]
    subst this
    have hd4 : d = 1 ∨ d = 2 ∨ d = 3 ∨ d = 4 := by omega
    rcases hd4 with rfl | rfl | rfl | rfl <;> decide +kernel
  · rw [if_neg h0]
    exact fdec_quo _ _ d (by omega) (by omega) hd1 (by omega)
theorem opt_of_laid {W : World} (h : Lib.VarReads Tryz.prog W "internal/strconv.optimize" (.lit (.bool true))) : W.cell? ⟨2, 0, none⟩ = some (.bool true) := by
  obtain ⟨g', t', cs, fuel, p, h1, h2, h3, h4⟩ := h
  have hg : Tryz.prog.globalNamed "internal/strconv.optimize" = some 2 := by kernel_rfl
  have ht : (Tryz.prog.globals[2]?).map (·.type) = some 4 := by kernel_rfl
  obtain rfl := Option.some.inj (hg.symm.trans h1)
  obtain rfl := Option.some.inj (ht.symm.trans h2)
  obtain ⟨b, hb, hx⟩ := DataW.trod_bool Tryz.underlying4 h4
  have e0 := congrArg Prod.fst hx
  simp only [DataW.lit.injEq, Lit.bool.injEq] at e0
  rw [World.var?_cell hg h3 0]
  obtain ⟨l⟩ := cs
  simp only at hb
  subst hb
  simp [← e0]
end Go.Proofs.YtodlhjdogcpffaaGreatDoor
