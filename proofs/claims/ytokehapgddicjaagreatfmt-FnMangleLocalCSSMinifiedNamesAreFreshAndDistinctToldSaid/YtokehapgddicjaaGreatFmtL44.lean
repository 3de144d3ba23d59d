/- For every CSS file of local and global names, with short names, each local gets a non-empty name that is no global, no used and no other local's name, and globals get none: FnMangleLocalCSSMinifiedNamesAreFreshAndDistinct returns true. The listed variables are tied to the program text; fmt's text is told. -/
import Derived.Test.YtokehapgddicjaaGreatFmtB8
import Derived.Test.YtokehapgddicjaaGreatFmtB10
import Derived.Test.YtokehapgddicjaaGreatFmtB11
import Derived.LaidMore
import Derived.OpenVars
import Derived.ChangeVars
import Derived.Stop.Joined
import Derived.ProofKit
import Derived.OpenShut
import Derived.ShutString
import Derived.ChangeOld
import Derived.Lay
import Derived.SevenTiedAt
import Derived.Stop.JoinedTold
import Derived.Laws.Cover2
import Derived.Test.YtokehapgddicjaaGreatFmtRows
import Derived.Test.YtokehapgddicjaaGreatFmtCards
import Derived.Test.YtokehapgddicjaaGreatFmtTie
namespace Go.Proofs.YtokehapgddicjaaGreatFmt
open Go.ChangeShapes Go.WideShapes Go.ChangeAt Go.RowKit
open Go.ChangeMaps (open_string shut_string)
set_option linter.unusedVariables false
namespace fnMangleLocalCSSMinifiedNamesAreFreshAndDistinct
theorem ref_laid {W : World} (h : laidMetH Tryz.prog Rows.fnMangleLocalCSSMinifiedNamesAreFreshAndDistinctRow.laid W) : W.cell? ⟨0, 0, none⟩ = some (.int .u32 4294967295) ∧ W.cell? ⟨0, 1, none⟩ = some (.int .u32 4294967295) := by
  rw [MakeChecks.laidMetH_plain _ _ _ (by kernel_rfl)] at h
  exact ref_reads (Lib.laidMet.reads h (List.mem_of_getElem? (show Rows.fnMangleLocalCSSMinifiedNamesAreFreshAndDistinctRow.laid[3]? = some ("github.com/evanw/esbuild/internal/ast.InvalidRef", Rows.laid_github_com_evanw_esbuild_internal_ast_InvalidRef) from rfl)))
theorem own : ownKnob Tryz.prog.godebug = none := by kernel_rfl
theorem laidOut : laidOutB Tryz.prog = true := laidOutB_prog
theorem stops : Tryz.pinned.checked.prog.stops = ["fmt.Sprintf"] := by kernel_rfl
theorem stopKnobs : Tryz.pinned.checked.prog.stopKnobs = [] := by kernel_rfl
theorem quiet (os : Os) : Stop.quiet Tryz.pinned.checked.prog os := by
  intro k hk
  rw [stopKnobs] at hk
  cases hk
set_option maxRecDepth 100000 in
set_option maxHeartbeats 4000000 in
theorem lifted (os : Os) (started : os.Started) (H : Type) (enc : TypeId × Value → H) :
    ReturnsInTold none {} Tryz.checked os 4 .any Input.okWide ((OpenSpec.ofChange Rows.fnMangleLocalCSSMinifiedNamesAreFreshAndDistinctSpec).preRow enc Tryz.prog Tryz.f4 Rows.fnMangleLocalCSSMinifiedNamesAreFreshAndDistinctRow.domain false Rows.fnMangleLocalCSSMinifiedNamesAreFreshAndDistinctRow.laid) (fun F => ((OpenSpec.ofChange Rows.fnMangleLocalCSSMinifiedNamesAreFreshAndDistinctSpec).at F).post enc Tryz.prog Tryz.f4 false true false false) (aloneAtReturn Tryz.prog) nothingAlways := by
  refine returnsInTold_of_row (C := Tryz.checked) (s := OpenSpec.ofChange Rows.fnMangleLocalCSSMinifiedNamesAreFreshAndDistinctSpec) (by kernel_rfl) own started (by kernel_rfl) Tryz.func4
    (fun F => ⟨World.laidAll Tryz.prog os Rows.fnMangleLocalCSSMinifiedNamesAreFreshAndDistinctRow.laid, F.over fun _ _ => 0, ⟨#[], #[.string ByteArray.empty, .slice none 0 0, .slice none 0 0, .slice none 0 0, .slice none 0 0], []⟩, World.laidAll_os _ _ _, World.shaped_of_ZipB (by kernel_rfl) (by kernel_rfl), rfl,
      (Input.okWide_of_okWideB (by kernel_rfl)).2,
      OpenSpec.preRow_of_B rfl 8 (by kernel_rfl) (by kernel_rfl) (by rw [MakeChecks.laidMetH_plain _ _ _ (by kernel_rfl)]; exact laidMet_laidAll _ (by kernel_rfl) (by kernel_rfl)),
      (by simp only [Assume.holds]; exact ⟨by simp, by simp, fun _ => F.over_modest Modest.zero, by simp, by simp⟩), F.over_answers _⟩) ?_
  intro F W base args ds gs before _ hF hval0 hW hcnd0 _ _ hL _
  have hval : ∀ (j : Nat) t v, Tryz.f4.params[j]? = some t → args[j]? = some v → Value.okWide Tryz.prog W .any base t v := hval0
  have hW' := hW
  obtain ⟨p, q, hA0, hV, rfl, hfz, hnd⟩ := hW
  have hA : DataW.TrodAll enc Tryz.prog W 0 (fun _ => true) true Tryz.f4.params.toList args.toList ds p := hA0
  rw [Tryz.params4] at hA hval
  obtain ⟨v0, vs0, d0, ds0, p0, q0, hargs, rfl, rfl, h0, r0⟩ := trodAll_cons hA
  obtain ⟨v1, vs1, d1, ds1, p1, q1, rfl, rfl, rfl, h1, r1⟩ := trodAll_cons r0
  obtain ⟨v2, vs2, d2, ds2, p2, q2, rfl, rfl, rfl, h2, r2⟩ := trodAll_cons r1
  obtain ⟨v3, vs3, d3, ds3, p3, q3, rfl, rfl, rfl, h3, r3⟩ := trodAll_cons r2
  obtain ⟨v4, vs4, d4, ds4, p4, q4, rfl, rfl, rfl, h4, r4⟩ := trodAll_cons r3
  obtain ⟨rfl, rfl, rfl⟩ := trodAll_nil r4
  obtain rfl : args = #[v0, v1, v2, v3, v4] := by cases args; simp_all
  obtain ⟨_, _, _, _, dg0, _, rfl, _⟩ := trodVars_one hV
  obtain ⟨ident, rfl, rfl, rfl, wident⟩ := open_string Tryz.underlying9 (hval 0 9 v0 rfl rfl) h0
  obtain ⟨namesa, namesn, namesc, rfl⟩ := okWide_slice Tryz.underlying22 (hval 1 22 v1 rfl rfl)
  have k1 := h1
  have lt1 : ∀ x ∈ p1, x.block < W.heap.size := by obtain ⟨m, hm⟩ := k1; exact DataW.trod_lt m _ _ _ hm
  obtain ⟨wnames, namesS, wnames2, wnames3⟩ := strs_of_open Tryz.underlying22 Tryz.underlying9 (by kernel_rfl) h1
  obtain ⟨globa, globn, globc, rfl⟩ := okWide_slice Tryz.underlying23 (hval 2 23 v2 rfl rfl)
  have k2 := h2
  have lt2 : ∀ x ∈ p2, x.block < W.heap.size := by obtain ⟨m, hm⟩ := k2; exact DataW.trod_lt m _ _ _ hm
  obtain ⟨wglob, globB, wglob2⟩ := bools_of_open Tryz.underlying23 Tryz.underlying4 (by kernel_rfl) h2
  obtain ⟨countsa, countsn, countsc, rfl⟩ := okWide_slice Tryz.underlying24 (hval 3 24 v3 rfl rfl)
  have k3 := h3
  have lt3 : ∀ x ∈ p3, x.block < W.heap.size := by obtain ⟨m, hm⟩ := k3; exact DataW.trod_lt m _ _ _ hm
  obtain ⟨wcounts, countsZ, wcounts2, wcounts3⟩ := ints_of_open Tryz.underlying24 Tryz.underlying34 (by kernel_rfl) h3
  obtain ⟨useda, usedn, usedc, rfl⟩ := okWide_slice Tryz.underlying22 (hval 4 22 v4 rfl rfl)
  have k4 := h4
  have lt4 : ∀ x ∈ p4, x.block < W.heap.size := by obtain ⟨m, hm⟩ := k4; exact DataW.trod_lt m _ _ _ hm
  obtain ⟨wused, usedS, wused2, wused3⟩ := strs_of_open Tryz.underlying22 Tryz.underlying9 (by kernel_rfl) h4
  have hvr := ref_laid hL
  clear hA0 hval0
  refine (law44_wf ident namesa namesn namesc namesS globa globn globc globB countsa countsn countsc countsZ useda usedn usedc usedS W wident wnames wnames2 wnames3 wglob wglob2 wcounts wcounts2 wcounts3 wused wused2 wused3 hvr).mono fun e W' ⟨he, bel⟩ => ?_
  subst he
  exact ⟨_, rfl, _, _, _, [], _, q, hW', trodAll_mk1 (shut_bool Tryz.underlying4 _), (trodAll_cons_mk (shut_string Tryz.underlying9 wident) (trodAll_cons_mk (Below.trod laidOut (by kernel_rfl) (of_decide_eq_true (by kernel_rfl)) k1 bel lt1) (trodAll_cons_mk (Below.trod laidOut (by kernel_rfl) (of_decide_eq_true (by kernel_rfl)) k2 bel lt2) (trodAll_cons_mk (Below.trod laidOut (by kernel_rfl) (of_decide_eq_true (by kernel_rfl)) k3 bel lt3) (trodAll_cons_mk (Below.trod laidOut (by kernel_rfl) (of_decide_eq_true (by kernel_rfl)) k4 bel lt4) (trodAll_mk0)))))), Below.trodVars laidOut bel (by kernel_rfl) hV, bel.frame _, fun h => by cases h⟩
set_option maxHeartbeats 8000000 in
/-- The statement. -/
theorem proved : Rows.FnMangleLocalCSSMinifiedNamesAreFreshAndDistinctToldSaid :=
  Claim7.holds_of_told_tied_any_at .later 4 Tryz.f4 "fmt.Sprintf" [] [] _ _ _ _ _ (by as_aux_lemma => kernel_rfl) rfl rfl rfl laidOut (by as_aux_lemma => kernel_rfl) rfl ⟨rfl, rfl, rfl, rfl, rfl, rfl, rfl⟩ rfl rfl (by as_aux_lemma => kernel_rfl) (by as_aux_lemma => kernel_rfl) Tryz.func4 (by as_aux_lemma => kernel_rfl)
    (of_decide_eq_true (by as_aux_lemma => kernel_rfl)) (by unfold Func.isWrapper; rw [if_neg (of_decide_eq_false (by as_aux_lemma => kernel_rfl))]; exact ⟨rfl, rfl⟩) stops.symm rfl stopKnobs.symm (by as_aux_lemma => kernel_rfl)
    (by as_aux_lemma => kernel_rfl) (by as_aux_lemma => kernel_rfl) (by as_aux_lemma => kernel_rfl) (by as_aux_lemma => kernel_rfl) (by as_aux_lemma => kernel_rfl) (by as_aux_lemma => kernel_rfl) (by as_aux_lemma => kernel_rfl) (by as_aux_lemma => kernel_rfl) (by as_aux_lemma => kernel_rfl) rfl (by as_aux_lemma => kernel_rfl) rfl rfl
    rfl rfl
    rfl (by as_aux_lemma => kernel_rfl) (by as_aux_lemma => kernel_rfl) (by as_aux_lemma => kernel_rfl) (by decide) (by as_aux_lemma => kernel_rfl) fnMangleLocalCSSMinifiedNamesAreFreshAndDistinct_row_tie
    (OpenClaim.moreEntering_of (by as_aux_lemma => kernel_rfl) (by as_aux_lemma => kernel_rfl) (by as_aux_lemma => kernel_rfl) (by as_aux_lemma => kernel_rfl) (by as_aux_lemma => kernel_rfl) (by as_aux_lemma => kernel_rfl) (by as_aux_lemma => kernel_rfl) (by as_aux_lemma => kernel_rfl) (by as_aux_lemma => kernel_rfl) (by as_aux_lemma => kernel_rfl))
    ⟨_, WideRow.started_initial, quiet _⟩
    (fun os started _ H enc _ => lifted os started H enc)
#print axioms proved
end fnMangleLocalCSSMinifiedNamesAreFreshAndDistinct
end Go.Proofs.YtokehapgddicjaaGreatFmt
