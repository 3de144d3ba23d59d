/- For every list of names, signs and a bad place a sum of identifiers is serialized with signed operators: FnSumOfIdentsSerializesWithSignedOperators returns true. The listed variables are tied to the program text, fmt is told. -/
import Derived.Test.YtlajoolgfhlmkaaGreatFmtT6
import Derived.Stop.Joined
import Derived.ProofKit
import Derived.OpenShut
import Derived.ShutString
import Derived.ChangeOld
import Derived.Lay
import Derived.SevenTiedAt
import Derived.Stop.JoinedTold
import Derived.Laws.Cover2
import Derived.Test.YtlajoolgfhlmkaaGreatFmtRows
import Derived.Test.YtlajoolgfhlmkaaGreatFmtCards
import Derived.Test.YtlajoolgfhlmkaaGreatFmtTie
namespace Go.Proofs.YtlajoolgfhlmkaaGreatFmt
open Go.ChangeShapes Go.WideShapes Go.ChangeAt Go.RowKit
open Go.ChangeMaps (open_string shut_string)
set_option linter.unusedVariables false
namespace fnSumOfIdentsSerializesWithSignedOperators
theorem own : ownKnob Tryz.prog.godebug = none := by kernel_rfl
theorem laidOut : laidOutB Tryz.prog = true := by kernel_rfl
theorem stops : Tryz.pinned.checked.prog.stops = ["fmt.Sprintf"] := by kernel_rfl
theorem stopKnobs : Tryz.pinned.checked.prog.stopKnobs = [] := by kernel_rfl
theorem quiet (os : Os) : Stop.quiet Tryz.pinned.checked.prog os := by
  intro k hk
  rw [stopKnobs] at hk
  cases hk
set_option maxRecDepth 100000 in
set_option maxHeartbeats 4000000 in
theorem lifted (os : Os) (started : os.Started) (H : Type) (enc : TypeId × Value → H) :
    ReturnsInTold none {} Tryz.checked os 3 .any Input.okWide ((OpenSpec.ofChange Rows.fnSumOfIdentsSerializesWithSignedOperatorsSpec).preRow enc Tryz.prog Tryz.f3 Rows.fnSumOfIdentsSerializesWithSignedOperatorsRow.domain false Rows.fnSumOfIdentsSerializesWithSignedOperatorsRow.laid) (fun F => ((OpenSpec.ofChange Rows.fnSumOfIdentsSerializesWithSignedOperatorsSpec).at F).post enc Tryz.prog Tryz.f3 false true false false) (aloneAtReturn Tryz.prog) nothingAlways := by
  refine returnsInTold_of_row (C := Tryz.checked) (s := OpenSpec.ofChange Rows.fnSumOfIdentsSerializesWithSignedOperatorsSpec) (by kernel_rfl) own started (by kernel_rfl) Tryz.func3
    (fun F => ⟨World.laidAll Tryz.prog os Rows.fnSumOfIdentsSerializesWithSignedOperatorsRow.laid, F.over fun _ _ => 0, ⟨#[], #[.slice none 0 0, .slice none 0 0, .int .i64 0, .int .u8 0], []⟩, World.laidAll_os _ _ _, World.shaped_of_ZipB (by kernel_rfl) (by kernel_rfl), rfl,
      (Input.okWide_of_okWideB (by kernel_rfl)).2,
      OpenSpec.preRow_of_B rfl 8 (by kernel_rfl) (by kernel_rfl) (by rw [MakeChecks.laidMetH_plain _ _ _ (by kernel_rfl)]; exact laidMet_laidAll _ (by kernel_rfl) (by kernel_rfl)),
      (by simp only [Assume.holds]; exact ⟨by simp, by simp, fun _ => F.over_modest Modest.zero, by simp, by simp⟩), F.over_answers _⟩) ?_
  intro F W base args ds gs before _ hF hval0 hW hcnd0 _ _ hL _
  have hval : ∀ (j : Nat) t v, Tryz.f3.params[j]? = some t → args[j]? = some v → Value.okWide Tryz.prog W .any base t v := hval0
  have hW' := hW
  obtain ⟨p, q, hA0, hV, rfl, hfz, hnd⟩ := hW
  have hA : DataW.TrodAll enc Tryz.prog W 0 (fun _ => true) true Tryz.f3.params.toList args.toList ds p := hA0
  rw [Tryz.params3] at hA hval
  obtain ⟨v0, vs0, d0, ds0, p0, q0, hargs, rfl, rfl, h0, r0⟩ := trodAll_cons hA
  obtain ⟨v1, vs1, d1, ds1, p1, q1, rfl, rfl, rfl, h1, r1⟩ := trodAll_cons r0
  obtain ⟨v2, vs2, d2, ds2, p2, q2, rfl, rfl, rfl, h2, r2⟩ := trodAll_cons r1
  obtain ⟨v3, vs3, d3, ds3, p3, q3, rfl, rfl, rfl, h3, r3⟩ := trodAll_cons r2
  obtain ⟨rfl, rfl, rfl⟩ := trodAll_nil r3
  obtain rfl : args = #[v0, v1, v2, v3] := by cases args; simp_all
  obtain ⟨rfl, rfl⟩ := trodVars_none hV
  obtain ⟨namesa, namesn, namesc, rfl⟩ := okWide_slice Tryz.underlying22 (hval 0 22 v0 rfl rfl)
  have k0 := h0
  have lt0 : ∀ x ∈ p0, x.block < W.heap.size := by obtain ⟨m, hm⟩ := k0; exact DataW.trod_lt m _ _ _ hm
  obtain ⟨wnames, namesS, wnames2, wnames3⟩ := strs_of_open Tryz.underlying22 Tryz.underlying9 (by kernel_rfl) h0
  obtain ⟨nega, negn, negc, rfl⟩ := okWide_slice Tryz.underlying23 (hval 1 23 v1 rfl rfl)
  have k1 := h1
  have lt1 : ∀ x ∈ p1, x.block < W.heap.size := by obtain ⟨m, hm⟩ := k1; exact DataW.trod_lt m _ _ _ hm
  obtain ⟨wneg, negB, wneg2⟩ := bools_of_open Tryz.underlying23 Tryz.underlying4 (by kernel_rfl) h1
  obtain ⟨badAt, rfl, rfl, rfl, wbadAt⟩ := open_int Tryz.underlying3 (hval 2 3 v2 rfl rfl) h2
  obtain ⟨ws, rfl, rfl, rfl, wws⟩ := open_int Tryz.underlying5 (hval 3 5 v3 rfl rfl) h3
  clear hA0 hval0
  refine (law14_wf namesa namesn namesc namesS nega negn negc negB badAt ws W wnames wnames2 wnames3 wneg wneg2).mono fun e W' ⟨he, bel⟩ => ?_
  subst he
  exact ⟨_, rfl, _, _, _, [], _, [], hW', trodAll_mk1 (shut_bool Tryz.underlying4 _), (trodAll_cons_mk (Below.trod laidOut (by kernel_rfl) (of_decide_eq_true (by kernel_rfl)) k0 bel lt0) (trodAll_cons_mk (Below.trod laidOut (by kernel_rfl) (of_decide_eq_true (by kernel_rfl)) k1 bel lt1) (trodAll_cons_mk (shut_int Tryz.underlying3 wbadAt) (trodAll_cons_mk (shut_int Tryz.underlying5 wws) (trodAll_mk0))))), rfl, bel.frame _, fun h => by cases h⟩
/-- The statement. -/
theorem proved : Rows.FnSumOfIdentsSerializesWithSignedOperatorsToldSaid :=
  Claim7.holds_of_told_tied_any_at .later 3 Tryz.f3 "fmt.Sprintf" [] [] _ _ _ _ _ (by kernel_rfl) rfl rfl rfl laidOut (by kernel_rfl) rfl ⟨rfl, rfl, rfl, rfl, rfl, rfl, rfl⟩ rfl rfl (by kernel_rfl) (by kernel_rfl) Tryz.func3 (by kernel_rfl)
    (of_decide_eq_true (by kernel_rfl)) (by unfold Func.isWrapper; rw [if_neg (of_decide_eq_false (by kernel_rfl))]; exact ⟨rfl, rfl⟩) stops.symm rfl stopKnobs.symm (by kernel_rfl)
    (by kernel_rfl) (by kernel_rfl) (by kernel_rfl) (by kernel_rfl) (by kernel_rfl) (by kernel_rfl) (by kernel_rfl) (by kernel_rfl) (by kernel_rfl) rfl (by kernel_rfl) rfl rfl
    rfl rfl
    rfl (by kernel_rfl) (by kernel_rfl) (by kernel_rfl) (by decide) (by kernel_rfl) fnSumOfIdentsSerializesWithSignedOperators_row_tie
    (OpenClaim.moreEntering_of (by kernel_rfl) (by kernel_rfl) (by kernel_rfl) (by kernel_rfl) (by kernel_rfl) (by kernel_rfl) (by kernel_rfl) (by kernel_rfl) (by kernel_rfl) (by kernel_rfl))
    ⟨_, WideRow.started_initial, quiet _⟩
    (fun os started _ H enc _ => lifted os started H enc)
#print axioms proved
end fnSumOfIdentsSerializesWithSignedOperators
end Go.Proofs.YtlajoolgfhlmkaaGreatFmt
