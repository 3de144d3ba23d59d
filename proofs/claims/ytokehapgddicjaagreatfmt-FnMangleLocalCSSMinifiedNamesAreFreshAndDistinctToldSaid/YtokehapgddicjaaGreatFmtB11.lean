/- What the variable InvalidRef holds when the call begins. -/
import Derived.Test.YtokehapgddicjaaGreatFmtB6a
import Derived.Test.YtokehapgddicjaaGreatFmtRows
import Derived.LaidMore
import Derived.ChangeVars
import Derived.OpenShut
namespace Go.Proofs.YtokehapgddicjaaGreatFmt
open Go.RowKit Go.ChangeShapes
set_option linter.unusedVariables false
set_option linter.unusedSimpArgs false
theorem ref_reads {W : World} (h1 : Lib.VarReads Tryz.prog W "github.com/evanw/esbuild/internal/ast.InvalidRef" Rows.laid_github_com_evanw_esbuild_internal_ast_InvalidRef) : W.cell? ⟨0, 0, none⟩ = some (.int .u32 4294967295) ∧ W.cell? ⟨0, 1, none⟩ = some (.int .u32 4294967295) := by
  obtain ⟨g', t', cs, fuel, p, e1, e2, e3, e4⟩ := h1
  have hg : Tryz.prog.globalNamed "github.com/evanw/esbuild/internal/ast.InvalidRef" = some 0 := by kernel_rfl
  have ht : (Tryz.prog.globals[0]?).map (·.type) = some 44 := by kernel_rfl
  obtain rfl := Option.some.inj (hg.symm.trans e1)
  obtain rfl := Option.some.inj (ht.symm.trans e2)
  obtain ⟨y0, y1, m, hx, hl, t0, t1⟩ := trod_struct2 Tryz.underlying44 e4
  simp only [cells34] at t0 t1
  obtain ⟨n0, c0, z0, _⟩ := DataW.trod_int Tryz.underlying34 t0
  obtain ⟨n1, c1, z1, _⟩ := DataW.trod_int Tryz.underlying34 t1
  subst z0 z1
  have k0 := World.var?_cell hg e3 0
  have k1 := World.var?_cell hg e3 1
  obtain ⟨cl⟩ := cs
  simp [Rows.laid_github_com_evanw_esbuild_internal_ast_InvalidRef] at hx
  obtain ⟨⟨rfl, rfl⟩, _⟩ := hx
  rw [cells44] at hl
  match cl, hl with
  | [a, b], _ =>
    simp at c0 c1
    subst c0 c1
    exact ⟨k0.trans rfl, k1.trans rfl⟩
end Go.Proofs.YtokehapgddicjaaGreatFmt
