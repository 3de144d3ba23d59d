/- For |m| <= 2^53 written as a number of two decimals tryToParseValue gives m/100 and the unit for percentages and dimensions, takes a bare number only when it is nought and the gradient is not conic, and refuses idents: FnTryToParseValueCaseTable returns true. The listed library variables are tied to the program text. -/
import Derived.Test.YtodlhjdogcpffaaDoorLaw43W
import Derived.Test.YtodlhjdogcpffaaDoorVars
import Derived.Stop.Joined
import Derived.ProofKit
import Derived.OpenShut
import Derived.ShutString
import Derived.ChangeOld
import Derived.Lay
import Derived.SevenTiedAt
import Derived.Stop.JoinedTold
import Derived.Laws.Cover2
import Derived.Test.YtodlhjdogcpffaaDoorRows
import Derived.Test.YtodlhjdogcpffaaDoorCards
import Derived.Test.YtodlhjdogcpffaaDoorTie
namespace Go.Proofs.YtodlhjdogcpffaaDoor
open Go.ChangeShapes Go.WideShapes Go.ChangeAt Go.RowKit
open Go.ChangeMaps (open_string shut_string)
set_option linter.unusedVariables false
namespace fnTryToParseValueCaseTable
theorem row_laid {W : World} (h : laidMetH Tryd.prog Rows.fnTryToParseValueCaseTableRow.laid W) : RowM2 W := by
  rw [MakeChecks.laidMetH_plain _ _ _ (by kernel_rfl)] at h
  exact rowM2_of (Lib.laidMet.reads h (List.mem_of_getElem? (show Rows.fnTryToParseValueCaseTableRow.laid[12]? = some ("internal/strconv.pow10Tab", Go.Pinned.pow10Tab) from rfl)))
theorem pow_laid : Rows.fnTryToParseValueCaseTableRow.laid[6]? = some ("internal/strconv.float64pow10", .slice ((List.range 23).map fun i => .lit (.float .f64 (fint false (10 ^ i)))) []) := by kernel_rfl
theorem own : ownKnob Tryd.prog.godebug = none := by kernel_rfl
theorem laidOut : laidOutB Tryd.prog = true := by kernel_rfl
set_option maxRecDepth 100000 in
set_option maxHeartbeats 4000000 in
theorem lifted (os : Os) (started : os.Started) (H : Type) (enc : TypeId × Value → H) :
    ReturnsInHanded {} Tryd.checked os 5 .any (fun w args => (Rows.fnTryToParseValueCaseTableSpec.pre enc Tryd.prog Tryd.f5 Rows.fnTryToParseValueCaseTableRow.domain false w args ∧ laidMetH Tryd.prog Rows.fnTryToParseValueCaseTableRow.laid w) ∧ sizedMet enc Tryd.prog Tryd.f5 (OpenSpec.ofChange Rows.fnTryToParseValueCaseTableSpec) false w args)
      (Rows.fnTryToParseValueCaseTableSpec.post enc Tryd.prog Tryd.f5 false true false false) := by
  refine returnsInHanded_of_change_and (C := Tryd.checked) (X := fun w _ => laidMetH Tryd.prog Rows.fnTryToParseValueCaseTableRow.laid w) (fun _ _ _ hh h => h.of_heap hh) own started (by kernel_rfl) Tryd.func5
    (ChangeSpec.witness_shaped (enc := enc) (C := Tryd.checked) (os := os) (X := fun w _ => laidMetH Tryd.prog Rows.fnTryToParseValueCaseTableRow.laid w) false (World.laidAll Tryd.prog os Rows.fnTryToParseValueCaseTableRow.laid) #[.int .u8 0, .int .i64 0, .string ByteArray.empty, .int .u8 0] 8 (World.laidAll_os _ _ _)
      (World.shaped_of_ZipB (by kernel_rfl) (by kernel_rfl)) (by kernel_rfl) (by kernel_rfl) (by kernel_rfl)
      (by rw [MakeChecks.laidMetH_plain _ _ _ (by kernel_rfl)]; exact laidMet_laidAll _ (by kernel_rfl) (by kernel_rfl))) ?_
  intro W base args ds gs before hval0 hW hc _ hL _
  have hval : ∀ (j : Nat) t v, Tryd.f5.params[j]? = some t → args[j]? = some v → Value.okWide Tryd.prog W .any base t v := hval0
  have hW' := hW
  obtain ⟨p, q, hA0, hV, rfl, hfz, hnd⟩ := hW
  have hA : DataW.TrodAll enc Tryd.prog W 0 (fun _ => true) true Tryd.f5.params.toList args.toList ds p := hA0
  rw [Tryd.params5] at hA hval
  obtain ⟨v0, vs0, d0, ds0, p0, q0, hargs, rfl, rfl, h0, r0⟩ := trodAll_cons hA
  obtain ⟨v1, vs1, d1, ds1, p1, q1, rfl, rfl, rfl, h1, r1⟩ := trodAll_cons r0
  obtain ⟨v2, vs2, d2, ds2, p2, q2, rfl, rfl, rfl, h2, r2⟩ := trodAll_cons r1
  obtain ⟨v3, vs3, d3, ds3, p3, q3, rfl, rfl, rfl, h3, r3⟩ := trodAll_cons r2
  obtain ⟨rfl, rfl, rfl⟩ := trodAll_nil r3
  obtain rfl : args = #[v0, v1, v2, v3] := by cases args; simp_all
  obtain ⟨rfl, rfl⟩ := trodVars_none hV
  obtain ⟨sel, rfl, rfl, rfl, wsel⟩ := open_int Tryd.underlying5 (hval 0 5 v0 rfl rfl) h0
  obtain ⟨m, rfl, rfl, rfl, wm⟩ := open_int Tryd.underlying2 (hval 1 2 v1 rfl rfl) h1
  obtain ⟨unit, rfl, rfl, rfl, wunit⟩ := open_string Tryd.underlying9 (hval 2 9 v2 rfl rfl) h2
  obtain ⟨kind, rfl, rfl, rfl, wkind⟩ := open_int Tryd.underlying5 (hval 3 5 v3 rfl rfl) h3
  have hPow := powVars_of_laid (fltVars_of_laid hL (by kernel_rfl) 3 4 rfl rfl) hL (by kernel_rfl) 6 pow_laid
  have hRow := row_laid hL
  clear hA0 hval0
  refine (law43_wf sel m unit kind W wsel wm wunit wkind hPow hRow).mono fun e W' ⟨he, bel⟩ => ?_
  subst he
  exact ⟨_, rfl, _, _, _, [], _, [], hW', trodAll_mk1 (shut_bool Tryd.underlying4 _), (trodAll_cons_mk (shut_int Tryd.underlying5 wsel) (trodAll_cons_mk (shut_int Tryd.underlying2 wm) (trodAll_cons_mk (shut_string Tryd.underlying9 wunit) (trodAll_cons_mk (shut_int Tryd.underlying5 wkind) (trodAll_mk0))))), rfl, bel.frame _, fun h => by cases h⟩
theorem row_holds : Rows.fnTryToParseValueCaseTableRow.holds Tryd.pinned (OpenSpec.ofChange Rows.fnTryToParseValueCaseTableSpec) :=
  OpenClaim.holds_of_wide 5 Tryd.f5 rfl rfl rfl rfl rfl rfl rfl ⟨rfl, rfl, rfl, rfl, rfl⟩ rfl rfl rfl rfl rfl (by kernel_rfl) Tryd.func5 (by kernel_rfl)
    (of_decide_eq_true (by kernel_rfl)) (by unfold Func.isWrapper; rw [if_neg (of_decide_eq_false (by kernel_rfl))]; exact ⟨rfl, rfl⟩)
    (fun os started H enc _ => lifted os started H enc)
/-- The statement. -/
theorem proved : Rows.FnTryToParseValueCaseTableCardSaid :=
  Claim7.holds_tied_plain_at .later [] [.data, .data, .widerDeep, .widerDeep, .data, .data, .data, .data, .data, .sentinel, .sentinel, .pinned, .pinned] true (true, "d2885716cb4b4dd7cdbbb49beaa3b04138e9958fe5492cc0dad04f644f07f85e") true
    row_holds (fun _ h => by cases h) (by kernel_rfl) (fun _ h => by cases h) fnTryToParseValueCaseTable_row_tie rfl ⟨rfl, rfl⟩ (by kernel_rfl) rfl
    (fun f fn hf hfn => by
      obtain rfl : f = 5 := Option.some.inj ((show Tryd.prog.funcNamed "github.com/evanw/esbuild/n011_277.FnTryToParseValueCaseTable" = some 5 by kernel_rfl).symm.trans hf) |>.symm
      obtain rfl : fn = Tryd.f5 := (Option.some.inj (Tryd.func5.symm.trans hfn)).symm
      exact ⟨by kernel_rfl, fun j t ht => by
        rw [Tryd.params5] at ht
        have hm : t ∈ [2, 5, 9] := by
          have := Array.mem_of_getElem? ht
          simp at this
          first | (rcases this with rfl | rfl | rfl | rfl | rfl <;> simp) | (rcases this with rfl | rfl | rfl | rfl <;> simp) | (rcases this with rfl | rfl | rfl <;> simp) | (rcases this with rfl | rfl <;> simp) | (subst this; simp)
        have hall : ([2, 5, 9].all fun u => !Tryd.prog.wantsStandIn u) = true := by kernel_rfl
        exact (show Tryd.prog.wantsStandIn t = false by simpa using List.all_eq_true.1 hall t hm)⟩)
    (by kernel_rfl)
#print axioms proved
end fnTryToParseValueCaseTable
end Go.Proofs.YtodlhjdogcpffaaDoor
