/- For every uint16 d the alpha number token that spells d/1000 with three decimals is taken and gives the byte nearest to 255*d/1000, and 255 once d >= 1000: FnParseAlphaByteDecimalFraction returns true. The listed library variables are tied to the program text. -/
import Derived.Test.YtgdkncphmbdpjaaDoorQ2
import Derived.Stop.Joined
import Derived.ProofKit
import Derived.OpenShut
import Derived.ShutString
import Derived.ChangeOld
import Derived.Lay
import Derived.SevenTiedAt
import Derived.Stop.JoinedTold
import Derived.Laws.Cover2
import Derived.Test.YtgdkncphmbdpjaaDoorRows
import Derived.Test.YtgdkncphmbdpjaaDoorCards
import Derived.Test.YtgdkncphmbdpjaaDoorTie
namespace Go.Proofs.YtgdkncphmbdpjaaDoor
open Go.ChangeShapes Go.WideShapes Go.ChangeAt Go.RowKit
open Go.ChangeMaps (open_string shut_string)
set_option linter.unusedVariables false
namespace fnParseAlphaByteDecimalFraction
theorem pow_laid : Rows.fnParseAlphaByteDecimalFractionRow.laid[6]? = some ("internal/strconv.float64pow10", .slice ((List.range 23).map fun i => .lit (.float .f64 (fint false (10 ^ i)))) []) := by kernel_rfl
theorem own : ownKnob Tryd.prog.godebug = none := by kernel_rfl
theorem laidOut : laidOutB Tryd.prog = true := by kernel_rfl
set_option maxRecDepth 100000 in
set_option maxHeartbeats 4000000 in
theorem lifted (os : Os) (started : os.Started) (H : Type) (enc : TypeId × Value → H) :
    ReturnsInHanded {} Tryd.checked os 6 .any (fun w args => (Rows.fnParseAlphaByteDecimalFractionSpec.pre enc Tryd.prog Tryd.f6 Rows.fnParseAlphaByteDecimalFractionRow.domain false w args ∧ laidMetH Tryd.prog Rows.fnParseAlphaByteDecimalFractionRow.laid w) ∧ sizedMet enc Tryd.prog Tryd.f6 (OpenSpec.ofChange Rows.fnParseAlphaByteDecimalFractionSpec) false w args)
      (Rows.fnParseAlphaByteDecimalFractionSpec.post enc Tryd.prog Tryd.f6 false true false false) := by
  refine returnsInHanded_of_change_and (C := Tryd.checked) (X := fun w _ => laidMetH Tryd.prog Rows.fnParseAlphaByteDecimalFractionRow.laid w) (fun _ _ _ hh h => h.of_heap hh) own started (by kernel_rfl) Tryd.func6
    (ChangeSpec.witness_shaped (enc := enc) (C := Tryd.checked) (os := os) (X := fun w _ => laidMetH Tryd.prog Rows.fnParseAlphaByteDecimalFractionRow.laid w) false (World.laidAll Tryd.prog os Rows.fnParseAlphaByteDecimalFractionRow.laid) #[.int .u16 0] 8 (World.laidAll_os _ _ _)
      (World.shaped_of_ZipB (by kernel_rfl) (by kernel_rfl)) (by kernel_rfl) (by kernel_rfl) (by kernel_rfl)
      (by rw [MakeChecks.laidMetH_plain _ _ _ (by kernel_rfl)]; exact laidMet_laidAll _ (by kernel_rfl) (by kernel_rfl))) ?_
  intro W base args ds gs before hval0 hW hc _ hL _
  have hval : ∀ (j : Nat) t v, Tryd.f6.params[j]? = some t → args[j]? = some v → Value.okWide Tryd.prog W .any base t v := hval0
  have hW' := hW
  obtain ⟨p, q, hA0, hV, rfl, hfz, hnd⟩ := hW
  have hA : DataW.TrodAll enc Tryd.prog W 0 (fun _ => true) true Tryd.f6.params.toList args.toList ds p := hA0
  rw [Tryd.params6] at hA hval
  obtain ⟨v0, vs0, d0, ds0, p0, q0, hargs, rfl, rfl, h0, r0⟩ := trodAll_cons hA
  obtain ⟨rfl, rfl, rfl⟩ := trodAll_nil r0
  obtain rfl : args = #[v0] := by cases args; simp_all
  obtain ⟨rfl, rfl⟩ := trodVars_none hV
  obtain ⟨d, rfl, rfl, rfl, wd⟩ := open_int Tryd.underlying33 (hval 0 33 v0 rfl rfl) h0
  have hPow := powVars_of_laid (fltVars_of_laid hL (by kernel_rfl) 3 4 rfl rfl) hL (by kernel_rfl) 6 pow_laid
  clear hA0 hval0
  refine (law4_wf d W wd hPow).mono fun e W' ⟨he, bel⟩ => ?_
  subst he
  exact ⟨_, rfl, _, _, _, [], _, [], hW', trodAll_mk1 (shut_bool Tryd.underlying4 _), (trodAll_cons_mk (shut_int Tryd.underlying33 wd) (trodAll_mk0)), rfl, bel.frame _, fun h => by cases h⟩
theorem row_holds : Rows.fnParseAlphaByteDecimalFractionRow.holds Tryd.pinned (OpenSpec.ofChange Rows.fnParseAlphaByteDecimalFractionSpec) :=
  OpenClaim.holds_of_wide 6 Tryd.f6 rfl rfl rfl rfl rfl rfl rfl ⟨rfl, rfl, rfl, rfl, rfl⟩ rfl rfl rfl rfl rfl (by kernel_rfl) Tryd.func6 (by kernel_rfl)
    (of_decide_eq_true (by kernel_rfl)) (by unfold Func.isWrapper; rw [if_neg (of_decide_eq_false (by kernel_rfl))]; exact ⟨rfl, rfl⟩)
    (fun os started H enc _ => lifted os started H enc)
/-- The statement. -/
theorem proved : Rows.FnParseAlphaByteDecimalFractionCardSaid :=
  Claim7.holds_tied_plain_at .later [] [.data, .data, .widerDeep, .widerDeep, .data, .data, .data, .data, .data, .sentinel, .sentinel, .pinned, .pinned] true (true, "764ab62c4b90e5c7e2073af432cdf9f5645fba9b6033ef630a172d760cf8dc48") true
    row_holds (fun _ h => by cases h) (by kernel_rfl) (fun _ h => by cases h) fnParseAlphaByteDecimalFraction_row_tie rfl ⟨rfl, rfl⟩ (by kernel_rfl) rfl
    (fun f fn hf hfn => by
      obtain rfl : f = 6 := Option.some.inj ((show Tryd.prog.funcNamed "github.com/evanw/esbuild/n011_130.FnParseAlphaByteDecimalFraction" = some 6 by kernel_rfl).symm.trans hf) |>.symm
      obtain rfl : fn = Tryd.f6 := (Option.some.inj (Tryd.func6.symm.trans hfn)).symm
      exact ⟨by kernel_rfl, fun j t ht => by
        rw [Tryd.params6] at ht
        have hm : t ∈ [33] := by
          have := Array.mem_of_getElem? ht
          simp at this ⊢
          omega
        have hall : ([33].all fun u => !Tryd.prog.wantsStandIn u) = true := by kernel_rfl
        exact (show Tryd.prog.wantsStandIn t = false by simpa using List.all_eq_true.1 hall t hm)⟩)
    (by kernel_rfl)
#print axioms proved
end fnParseAlphaByteDecimalFraction
end Go.Proofs.YtgdkncphmbdpjaaDoor
