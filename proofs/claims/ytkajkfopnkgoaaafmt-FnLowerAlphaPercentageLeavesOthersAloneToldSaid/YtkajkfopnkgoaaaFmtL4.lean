/- A token of any kind other than percentage comes back with its kind and text; a percentage whose body begins with # comes back unchanged: FnLowerAlphaPercentageLeavesOthersAlone returns true. The listed library variables are tied to the program text; no road comes to fmt. -/
import Derived.Test.YtkajkfopnkgoaaaFmtC2
import Derived.Stop.Joined
import Derived.ProofKit
import Derived.OpenShut
import Derived.ShutString
import Derived.ChangeOld
import Derived.Lay
import Derived.SevenTiedAt
import Derived.Stop.JoinedTold
import Derived.Laws.Cover2
import Derived.Test.YtkajkfopnkgoaaaFmtRows
import Derived.Test.YtkajkfopnkgoaaaFmtCards
import Derived.Test.YtkajkfopnkgoaaaFmtTie
namespace Go.Proofs.YtkajkfopnkgoaaaFmt
open Go.ChangeShapes Go.WideShapes Go.ChangeAt Go.RowKit
open Go.ChangeMaps (open_string shut_string)
set_option linter.unusedVariables false
namespace fnLowerAlphaPercentageLeavesOthersAlone
theorem own : ownKnob Tryf.prog.godebug = none := by kernel_rfl
theorem laidOut : laidOutB Tryf.prog = true := by kernel_rfl
theorem stops : Tryf.pinned.checked.prog.stops = ["fmt.Sprintf"] := by kernel_rfl
theorem stopKnobs : Tryf.pinned.checked.prog.stopKnobs = [] := by kernel_rfl
theorem quiet (os : Os) : Stop.quiet Tryf.pinned.checked.prog os := by
  intro k hk
  rw [stopKnobs] at hk
  cases hk
set_option maxRecDepth 100000 in
set_option maxHeartbeats 4000000 in
theorem lifted (os : Os) (started : os.Started) (H : Type) (enc : TypeId × Value → H) :
    ReturnsInTold none {} Tryf.checked os 4 .any Input.okWide ((OpenSpec.ofChange Rows.fnLowerAlphaPercentageLeavesOthersAloneSpec).preRow enc Tryf.prog Tryf.f4 Rows.fnLowerAlphaPercentageLeavesOthersAloneRow.domain false Rows.fnLowerAlphaPercentageLeavesOthersAloneRow.laid) (fun F => ((OpenSpec.ofChange Rows.fnLowerAlphaPercentageLeavesOthersAloneSpec).at F).post enc Tryf.prog Tryf.f4 false true false false) (aloneAtReturn Tryf.prog) nothingAlways := by
  refine returnsInTold_of_row (C := Tryf.checked) (s := OpenSpec.ofChange Rows.fnLowerAlphaPercentageLeavesOthersAloneSpec) (by kernel_rfl) own started (by kernel_rfl) Tryf.func4
    (fun F => ⟨World.laidAll Tryf.prog os Rows.fnLowerAlphaPercentageLeavesOthersAloneRow.laid, F.over fun _ _ => 0, ⟨#[], #[.string ByteArray.empty, .int .u8 0], []⟩, World.laidAll_os _ _ _, World.shaped_of_ZipB (by kernel_rfl) (by kernel_rfl), rfl,
      (Input.okWide_of_okWideB (by kernel_rfl)).2,
      OpenSpec.preRow_of_B rfl 8 (by kernel_rfl) (by kernel_rfl) (by rw [MakeChecks.laidMetH_plain _ _ _ (by kernel_rfl)]; exact laidMet_laidAll _ (by kernel_rfl) (by kernel_rfl)),
      (by simp only [Assume.holds]; exact ⟨by simp, by simp, fun _ => F.over_modest Modest.zero, by simp, by simp⟩), F.over_answers _⟩) ?_
  intro F W base args ds gs before _ hF hval0 hW hcnd0 _ _ hL _
  have hval : ∀ (j : Nat) t v, Tryf.f4.params[j]? = some t → args[j]? = some v → Value.okWide Tryf.prog W .any base t v := hval0
  have hW' := hW
  obtain ⟨p, q, hA0, hV, rfl, hfz, hnd⟩ := hW
  have hA : DataW.TrodAll enc Tryf.prog W 0 (fun _ => true) true Tryf.f4.params.toList args.toList ds p := hA0
  rw [Tryf.params4] at hA hval
  obtain ⟨v0, vs0, d0, ds0, p0, q0, hargs, rfl, rfl, h0, r0⟩ := trodAll_cons hA
  obtain ⟨v1, vs1, d1, ds1, p1, q1, rfl, rfl, rfl, h1, r1⟩ := trodAll_cons r0
  obtain ⟨rfl, rfl, rfl⟩ := trodAll_nil r1
  obtain rfl : args = #[v0, v1] := by cases args; simp_all
  obtain ⟨rfl, rfl⟩ := trodVars_none hV
  obtain ⟨s, rfl, rfl, rfl, ws⟩ := open_string Tryf.underlying9 (hval 0 9 v0 rfl rfl) h0
  obtain ⟨k, rfl, rfl, rfl, wk⟩ := open_int Tryf.underlying5 (hval 1 5 v1 rfl rfl) h1
  have hSyn := ifaceVar_of_laid (P := Tryf.prog) (n := "strconv.ErrSyntax") (g := 0) (ti := 41) hL (by kernel_rfl) 10 rfl (by kernel_rfl) (by kernel_rfl) Tryf.underlying41
  clear hA0 hval0
  refine (law4 s k W ws hSyn).mono fun e W' ⟨he, bel⟩ => ?_
  subst he
  exact ⟨_, rfl, _, _, _, [], _, [], hW', trodAll_mk1 (shut_bool Tryf.underlying4 _), (trodAll_cons_mk (shut_string Tryf.underlying9 ws) (trodAll_cons_mk (shut_int Tryf.underlying5 wk) (trodAll_mk0))), rfl, bel.frame _, fun h => by cases h⟩
/-- The statement. -/
theorem proved : Rows.FnLowerAlphaPercentageLeavesOthersAloneToldSaid :=
  Claim7.holds_of_told_tied_any_at .later 4 Tryf.f4 "fmt.Sprintf" [] [] _ _ _ _ _ (by kernel_rfl) rfl rfl rfl laidOut (by kernel_rfl) rfl ⟨rfl, rfl, rfl, rfl, rfl, rfl, rfl⟩ rfl rfl (by kernel_rfl) (by kernel_rfl) Tryf.func4 (by kernel_rfl)
    (of_decide_eq_true (by kernel_rfl)) (by unfold Func.isWrapper; rw [if_neg (of_decide_eq_false (by kernel_rfl))]; exact ⟨rfl, rfl⟩) stops.symm rfl stopKnobs.symm (by kernel_rfl)
    (by kernel_rfl) (by kernel_rfl) (by kernel_rfl) (by kernel_rfl) (by kernel_rfl) (by kernel_rfl) (by kernel_rfl) (by kernel_rfl) (by kernel_rfl) rfl (by kernel_rfl) rfl rfl
    rfl rfl
    rfl (by kernel_rfl) (by kernel_rfl) (by kernel_rfl) (by decide) (by kernel_rfl) fnLowerAlphaPercentageLeavesOthersAlone_row_tie
    (OpenClaim.moreEntering_of (by kernel_rfl) (by kernel_rfl) (by kernel_rfl) (by kernel_rfl) (by kernel_rfl) (by kernel_rfl) (by kernel_rfl) (by kernel_rfl) (by kernel_rfl) (by kernel_rfl))
    ⟨_, WideRow.started_initial, quiet _⟩
    (fun os started _ H enc _ => lifted os started H enc)
#print axioms proved
end fnLowerAlphaPercentageLeavesOthersAlone
end Go.Proofs.YtkajkfopnkgoaaaFmt
