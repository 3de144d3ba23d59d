/-
  DERIVED. GIVEN WITH THE SEED: THE PROGRAM's TIES (one call each: nine closed facts by the kernel) AND EACH ROW's TIE, after the 31st guide's Derived/Test/Toyas{Tie, Card}.lean. No idea stands in it: it is a product of the set-up. Laid BY PROGRAM, IN A SANDBOX (cutbox-door.mjs). By AI agents, Wed Nov 11 2026. No macro, syntax, notation, axiom, sorry.
-/
import Derived.Test.YtlbnenmdopcbjaaDoorRows
import Derived.LaidByTextLater
import Derived.SevenTiedAt
import Derived.LaidSub
import Derived.LaidOnce
namespace Go.Proofs.YtlbnenmdopcbjaaDoor
open Go
set_option maxRecDepth 100000
theorem seatTie1 : Tryd.prog.laidByTextLater [("github.com/evanw/esbuild/internal/css_parser.nonDeprecatedElementsSupportedByIE7", Rows.laid_github_com_evanw_esbuild_internal_css_parser_nonDeprecatedElementsSupportedByIE7), ("github.com/evanw/esbuild/internal/css_parser.atKnownRuleCanBeRemovedIfEmpty", Rows.laid_github_com_evanw_esbuild_internal_css_parser_atKnownRuleCanBeRemovedIfEmpty)] [.mapped, .mapped] true :=
  Program.laidByTextLater_by_one 648 8 189 (by kernel_rfl) (by kernel_rfl) (by kernel_rfl) (by kernel_rfl) (by kernel_rfl) (by kernel_rfl) (fun _ _ => by kernel_rfl)
theorem noOwnUnsafe : Tryd.pinned.checked.prog.headLifts.contains "ownunsafe" = false := by kernel_rfl
theorem tie : Tryd.prog.laidByTextLater [("github.com/evanw/esbuild/internal/css_parser.nonDeprecatedElementsSupportedByIE7", Rows.laid_github_com_evanw_esbuild_internal_css_parser_nonDeprecatedElementsSupportedByIE7), ("github.com/evanw/esbuild/internal/css_parser.atKnownRuleCanBeRemovedIfEmpty", Rows.laid_github_com_evanw_esbuild_internal_css_parser_atKnownRuleCanBeRemovedIfEmpty)] [.mapped, .mapped] true :=
  Program.laidByTextLater.sub seatTie1 ["github.com/evanw/esbuild/internal/css_parser.nonDeprecatedElementsSupportedByIE7", "github.com/evanw/esbuild/internal/css_parser.atKnownRuleCanBeRemovedIfEmpty"] (by kernel_rfl) (by kernel_rfl)
theorem fnMangleRulesTopLevelDropsExactlyEmpty_row_tie : Rows.fnMangleRulesTopLevelDropsExactlyEmptyRow.laidByTextAt .later Tryd.pinned [.mapped, .mapped] true :=
  OpenClaim.laidByTextAt_later rfl rfl tie noOwnUnsafe
theorem fnMangleRulesTopLevelIdempotent_row_tie : Rows.fnMangleRulesTopLevelIdempotentRow.laidByTextAt .later Tryd.pinned [.mapped, .mapped] true :=
  OpenClaim.laidByTextAt_later rfl rfl tie noOwnUnsafe
theorem fnMangleRulesTopLevelDropsExactlyEmptyUpto_row_tie : Rows.fnMangleRulesTopLevelDropsExactlyEmptyUptoRow.laidByTextAt .later Tryd.pinned [.mapped, .mapped] true :=
  OpenClaim.laidByTextAt_later rfl rfl tie noOwnUnsafe
theorem fnMangleRulesTopLevelIdempotentUpto_row_tie : Rows.fnMangleRulesTopLevelIdempotentUptoRow.laidByTextAt .later Tryd.pinned [.mapped, .mapped] true :=
  OpenClaim.laidByTextAt_later rfl rfl tie noOwnUnsafe
end Go.Proofs.YtlbnenmdopcbjaaDoor
