/- For every whole m with |m| <= 2^40 and every d from 1 to 4 formatFloat(m/10^d, d) is the shortest plain decimal of m/10^d: FnFormatFloatDecimalFractionsExact returns true. The listed library variables are tied to the program text. -/
import Derived.Test.YtodlhjdogcpffaaDoorLaw3
import Derived.Stop.Joined
import Derived.ProofKit
import Derived.OpenShut
import Derived.ShutString
import Derived.ChangeOld
import Derived.Lay
import Derived.SevenTiedAt
import Derived.Stop.JoinedTold
import Derived.Laws.Cover2
import Derived.Test.YtodlhjdogcpffaaDoorRows
import Derived.Test.YtodlhjdogcpffaaDoorCards
import Derived.Test.YtodlhjdogcpffaaDoorTie
namespace Go.Proofs.YtodlhjdogcpffaaDoor
open Go.ChangeShapes Go.WideShapes Go.ChangeAt Go.RowKit
open Go.ChangeMaps (open_string shut_string)
set_option linter.unusedVariables false
namespace fnFormatFloatDecimalFractionsExact
theorem tab_laid {W : World} (h : laidMetH Tryd.prog Rows.fnFormatFloatDecimalFractionsExactRow.laid W) : Lib.TabIs Tryd.prog W "internal/strconv.uint64pow10" .u64 Lib.pow10Tab := by
  rw [MakeChecks.laidMetH_plain _ _ _ (by kernel_rfl)] at h
  exact tab_of_laid (Lib.laidMet.reads h (List.mem_of_getElem? (show Rows.fnFormatFloatDecimalFractionsExactRow.laid[3]? = some ("internal/strconv.uint64pow10", Lib.tabData .u64 Lib.pow10Tab) by kernel_rfl)))
theorem fmt_laid {W : World} (h : laidMetH Tryd.prog Rows.fnFormatFloatDecimalFractionsExactRow.laid W) : FmtVars W := by
  have ht := tab_laid h
  rw [MakeChecks.laidMetH_plain _ _ _ (by kernel_rfl)] at h
  exact fmtVars_of (Lib.laidMet.reads h (List.mem_of_getElem? (show Rows.fnFormatFloatDecimalFractionsExactRow.laid[5]? = some ("internal/strconv.pow10Tab", Go.Pinned.pow10Tab) from rfl))) ht (opt_of_laid (Lib.laidMet.reads h (List.mem_of_getElem? (show Rows.fnFormatFloatDecimalFractionsExactRow.laid[2]? = some ("internal/strconv.optimize", .lit (.bool true)) from rfl))))
theorem own : ownKnob Tryd.prog.godebug = none := by kernel_rfl
theorem laidOut : laidOutB Tryd.prog = true := by kernel_rfl
set_option maxRecDepth 100000 in
set_option maxHeartbeats 4000000 in
theorem lifted (os : Os) (started : os.Started) (H : Type) (enc : TypeId × Value → H) :
    ReturnsInHanded {} Tryd.checked os 3 .any (fun w args => (Rows.fnFormatFloatDecimalFractionsExactSpec.pre enc Tryd.prog Tryd.f3 Rows.fnFormatFloatDecimalFractionsExactRow.domain false w args ∧ laidMetH Tryd.prog Rows.fnFormatFloatDecimalFractionsExactRow.laid w) ∧ sizedMet enc Tryd.prog Tryd.f3 (OpenSpec.ofChange Rows.fnFormatFloatDecimalFractionsExactSpec) false w args)
      (Rows.fnFormatFloatDecimalFractionsExactSpec.post enc Tryd.prog Tryd.f3 false true false false) := by
  refine returnsInHanded_of_change_and (C := Tryd.checked) (X := fun w _ => laidMetH Tryd.prog Rows.fnFormatFloatDecimalFractionsExactRow.laid w) (fun _ _ _ hh h => h.of_heap hh) own started (by kernel_rfl) Tryd.func3
    (ChangeSpec.witness_shaped (enc := enc) (C := Tryd.checked) (os := os) (X := fun w _ => laidMetH Tryd.prog Rows.fnFormatFloatDecimalFractionsExactRow.laid w) false (World.laidAll Tryd.prog os Rows.fnFormatFloatDecimalFractionsExactRow.laid) #[.int .i64 0, .int .i64 0] 8 (World.laidAll_os _ _ _)
      (World.shaped_of_ZipB (by kernel_rfl) (by kernel_rfl)) (by kernel_rfl) (by kernel_rfl) (by kernel_rfl)
      (by rw [MakeChecks.laidMetH_plain _ _ _ (by kernel_rfl)]; exact laidMet_laidAll _ (by kernel_rfl) (by kernel_rfl))) ?_
  intro W base args ds gs before hval0 hW hc _ hL _
  have hval : ∀ (j : Nat) t v, Tryd.f3.params[j]? = some t → args[j]? = some v → Value.okWide Tryd.prog W .any base t v := hval0
  have hW' := hW
  obtain ⟨p, q, hA0, hV, rfl, hfz, hnd⟩ := hW
  have hA : DataW.TrodAll enc Tryd.prog W 0 (fun _ => true) true Tryd.f3.params.toList args.toList ds p := hA0
  rw [Tryd.params3] at hA hval
  obtain ⟨v0, vs0, d0, ds0, p0, q0, hargs, rfl, rfl, h0, r0⟩ := trodAll_cons hA
  obtain ⟨v1, vs1, d1, ds1, p1, q1, rfl, rfl, rfl, h1, r1⟩ := trodAll_cons r0
  obtain ⟨rfl, rfl, rfl⟩ := trodAll_nil r1
  obtain rfl : args = #[v0, v1] := by cases args; simp_all
  obtain ⟨rfl, rfl⟩ := trodVars_none hV
  obtain ⟨m, rfl, rfl, rfl, wm⟩ := open_int Tryd.underlying2 (hval 0 2 v0 rfl rfl) h0
  obtain ⟨d, rfl, rfl, rfl, wd⟩ := open_int Tryd.underlying3 (hval 1 3 v1 rfl rfl) h1
  have hFmt := fmt_laid hL
  have hTab := tab_laid hL
  clear hA0 hval0
  refine (law3_wf m d W wm wd hFmt hTab).mono fun e W' ⟨he, bel⟩ => ?_
  subst he
  exact ⟨_, rfl, _, _, _, [], _, [], hW', trodAll_mk1 (shut_bool Tryd.underlying4 _), (trodAll_cons_mk (shut_int Tryd.underlying2 wm) (trodAll_cons_mk (shut_int Tryd.underlying3 wd) (trodAll_mk0))), rfl, bel.frame _, fun h => by cases h⟩
theorem row_holds : Rows.fnFormatFloatDecimalFractionsExactRow.holds Tryd.pinned (OpenSpec.ofChange Rows.fnFormatFloatDecimalFractionsExactSpec) :=
  OpenClaim.holds_of_wide 3 Tryd.f3 rfl rfl rfl rfl rfl rfl rfl ⟨rfl, rfl, rfl, rfl, rfl⟩ rfl rfl rfl rfl rfl (by kernel_rfl) Tryd.func3 (by kernel_rfl)
    (of_decide_eq_true (by kernel_rfl)) (by unfold Func.isWrapper; rw [if_neg (of_decide_eq_false (by kernel_rfl))]; exact ⟨rfl, rfl⟩)
    (fun os started H enc _ => lifted os started H enc)
/-- The statement. -/
theorem proved : Rows.FnFormatFloatDecimalFractionsExactCardSaid :=
  Claim7.holds_tied_plain_at .later [] [.data, .data, .data, .data, .pinned, .pinned] true (true, "d2885716cb4b4dd7cdbbb49beaa3b04138e9958fe5492cc0dad04f644f07f85e") true
    row_holds (fun _ h => by cases h) (by kernel_rfl) (fun _ h => by cases h) fnFormatFloatDecimalFractionsExact_row_tie rfl ⟨rfl, rfl⟩ (by kernel_rfl) rfl
    (fun f fn hf hfn => by
      obtain rfl : f = 3 := Option.some.inj ((show Tryd.prog.funcNamed "github.com/evanw/esbuild/n011_277.FnFormatFloatDecimalFractionsExact" = some 3 by kernel_rfl).symm.trans hf) |>.symm
      obtain rfl : fn = Tryd.f3 := (Option.some.inj (Tryd.func3.symm.trans hfn)).symm
      exact ⟨by kernel_rfl, fun j t ht => by
        rw [Tryd.params3] at ht
        have hm : t ∈ [2, 3] := by
          have := Array.mem_of_getElem? ht
          simp at this
          first | (rcases this with rfl | rfl | rfl | rfl | rfl <;> simp) | (rcases this with rfl | rfl | rfl | rfl <;> simp) | (rcases this with rfl | rfl | rfl <;> simp) | (rcases this with rfl | rfl <;> simp) | (subst this; simp)
        have hall : ([2, 3].all fun u => !Tryd.prog.wantsStandIn u) = true := by kernel_rfl
        exact (show Tryd.prog.wantsStandIn t = false by simpa using List.all_eq_true.1 hall t hm)⟩)
    (by kernel_rfl)
#print axioms proved
end fnFormatFloatDecimalFractionsExact
end Go.Proofs.YtodlhjdogcpffaaDoor
