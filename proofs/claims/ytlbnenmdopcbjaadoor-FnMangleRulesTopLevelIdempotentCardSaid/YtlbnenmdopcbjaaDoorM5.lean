/- The table of removable at-rules answers. -/
import Derived.Test.YtlbnenmdopcbjaaDoorM3
import Derived.Test.YtlbnenmdopcbjaaDoorRows
import Derived.ProofKit
import Derived.LaidMore
import Derived.Lib.LaidU8
namespace Go.Proofs.YtlbnenmdopcbjaaDoor
open Go.ChangeShapes Go.WideShapes Go.ChangeAt Go.WideMaps Go.WideElems Go.RowKit

theorem law9 : KeyLaw Tryd.prog 9 := string_law Tryd.underlying9
set_option maxRecDepth 100000 in
theorem looks_of {W : World} (h : Lib.VarReads Tryd.prog W "github.com/evanw/esbuild/internal/css_parser.atKnownRuleCanBeRemovedIfEmpty" Rows.laid_github_com_evanw_esbuild_internal_css_parser_atKnownRuleCanBeRemovedIfEmpty) : LooksUp W := by
  obtain ⟨g', t', cs, fuel, p, h1, h2, h3, h4⟩ := h
  have hg : Tryd.prog.globalNamed "github.com/evanw/esbuild/internal/css_parser.atKnownRuleCanBeRemovedIfEmpty" = some 0 := by kernel_rfl
  have ht : (Tryd.prog.globals[0]?).map (·.type) = some 102 := by kernel_rfl
  obtain rfl := Option.some.inj (hg.symm.trans h1)
  obtain rfl := Option.some.inj (ht.symm.trans h2)
  rcases open_map Tryd.underlying102 h4 with ⟨_, hx⟩ | ⟨bm, es, clock, m, rfl, hcs, hb, _, F, hx⟩
  · simp [Rows.laid_github_com_evanw_esbuild_internal_css_parser_atKnownRuleCanBeRemovedIfEmpty] at hx
  simp only [Prod.mk.injEq] at hx
  refine ⟨bm, ?_, (Array.getElem?_eq_some_iff.1 hb).1, fun t ht8 w' hw => ?_⟩
  · have := World.var?_cell hg h3 0
    rw [Array.eq_one_of_toList hcs] at this
    simpa using this
  · have zero : (zeroValue 4).run Tryd.prog w' = .ok (.bool false) w' := by kernel_rfl
    have key : keyOf Tryd.prog 9 (.string (atName t)) = some (.string (atName t).data.toList) := by
      refine keyOf_string_mk Tryd.underlying9 ?_
      have h8 : t = 0 ∨ t = 1 ∨ t = 2 ∨ t = 3 ∨ t = 4 ∨ t = 5 ∨ t = 6 ∨ t = 7 := by omega
      rcases h8 with rfl | rfl | rfl | rfl | rfl | rfl | rfl | rfl <;> decide
    have hat0 : (Rows.laid_github_com_evanw_esbuild_internal_css_parser_atKnownRuleCanBeRemovedIfEmpty : DataW Unit).atKey (.string (atName t).data.toList) (.lit (.bool false)) = .lit (.bool (decide (t < 4))) := by
      have h8 : t = 0 ∨ t = 1 ∨ t = 2 ∨ t = 3 ∨ t = 4 ∨ t = 5 ∨ t = 6 ∨ t = 7 := by omega
      rcases h8 with rfl | rfl | rfl | rfl | rfl | rfl | rfl | rfl <;> rfl
    rcases fit_lookup (w := w') law9 Tryd.underlying102 zero (hw.trans hb) F key with ⟨hrun, hat⟩ | ⟨v, y, hrun, hRv, hat, _⟩
    · have := hat (.lit (.bool false))
      rw [← hx.1, hat0] at this
      simp only [DataW.lit.injEq, Lit.bool.injEq] at this
      rw [this]
      exact hrun
    · obtain ⟨b, rfl, rfl⟩ := elemAt_bool Tryd.underlying4 hRv
      have := hat (.lit (.bool false))
      rw [← hx.1, hat0] at this
      simp only [DataW.lit.injEq, Lit.bool.injEq] at this
      rw [this]
      exact hrun
end Go.Proofs.YtlbnenmdopcbjaaDoor
