/- For |m| <= 2^40 and any unit makeDimensionOrPercentToken(loc, m/100, unit) is the token at loc whose text is the shortest decimal of m/100 followed by the unit: FnMakeDimensionOrPercentTokenExact returns true. The listed library variables are tied to the program text. -/
import Derived.Test.YtodlhjdogcpffaaDoorTok20
import Derived.Stop.Joined
import Derived.ProofKit
import Derived.OpenShut
import Derived.ShutString
import Derived.ChangeOld
import Derived.Lay
import Derived.SevenTiedAt
import Derived.Stop.JoinedTold
import Derived.Laws.Cover2
import Derived.Test.YtodlhjdogcpffaaDoorRows
import Derived.Test.YtodlhjdogcpffaaDoorCards
import Derived.Test.YtodlhjdogcpffaaDoorTie
namespace Go.Proofs.YtodlhjdogcpffaaDoor
open Go.ChangeShapes Go.WideShapes Go.ChangeAt Go.RowKit
open Go.ChangeMaps (open_string shut_string)
set_option linter.unusedVariables false
namespace fnMakeDimensionOrPercentTokenExact
theorem tab_laid {W : World} (h : laidMetH Tryd.prog Rows.fnMakeDimensionOrPercentTokenExactRow.laid W) : Lib.TabIs Tryd.prog W "internal/strconv.uint64pow10" .u64 Lib.pow10Tab := by
  rw [MakeChecks.laidMetH_plain _ _ _ (by kernel_rfl)] at h
  exact tab_of_laid (Lib.laidMet.reads h (List.mem_of_getElem? (show Rows.fnMakeDimensionOrPercentTokenExactRow.laid[3]? = some ("internal/strconv.uint64pow10", Lib.tabData .u64 Lib.pow10Tab) by kernel_rfl)))
theorem fmt_laid {W : World} (h : laidMetH Tryd.prog Rows.fnMakeDimensionOrPercentTokenExactRow.laid W) : FmtVars W := by
  have ht := tab_laid h
  rw [MakeChecks.laidMetH_plain _ _ _ (by kernel_rfl)] at h
  exact fmtVars_of (Lib.laidMet.reads h (List.mem_of_getElem? (show Rows.fnMakeDimensionOrPercentTokenExactRow.laid[5]? = some ("internal/strconv.pow10Tab", Go.Pinned.pow10Tab) from rfl))) ht (opt_of_laid (Lib.laidMet.reads h (List.mem_of_getElem? (show Rows.fnMakeDimensionOrPercentTokenExactRow.laid[2]? = some ("internal/strconv.optimize", .lit (.bool true)) from rfl))))
theorem own : ownKnob Tryd.prog.godebug = none := by kernel_rfl
theorem laidOut : laidOutB Tryd.prog = true := by kernel_rfl
set_option maxRecDepth 100000 in
set_option maxHeartbeats 4000000 in
theorem lifted (os : Os) (started : os.Started) (H : Type) (enc : TypeId × Value → H) :
    ReturnsInHanded {} Tryd.checked os 4 .any (fun w args => (Rows.fnMakeDimensionOrPercentTokenExactSpec.pre enc Tryd.prog Tryd.f4 Rows.fnMakeDimensionOrPercentTokenExactRow.domain false w args ∧ laidMetH Tryd.prog Rows.fnMakeDimensionOrPercentTokenExactRow.laid w) ∧ sizedMet enc Tryd.prog Tryd.f4 (OpenSpec.ofChange Rows.fnMakeDimensionOrPercentTokenExactSpec) false w args)
      (Rows.fnMakeDimensionOrPercentTokenExactSpec.post enc Tryd.prog Tryd.f4 false true false false) := by
  refine returnsInHanded_of_change_and (C := Tryd.checked) (X := fun w _ => laidMetH Tryd.prog Rows.fnMakeDimensionOrPercentTokenExactRow.laid w) (fun _ _ _ hh h => h.of_heap hh) own started (by kernel_rfl) Tryd.func4
    (ChangeSpec.witness_shaped (enc := enc) (C := Tryd.checked) (os := os) (X := fun w _ => laidMetH Tryd.prog Rows.fnMakeDimensionOrPercentTokenExactRow.laid w) false (World.laidAll Tryd.prog os Rows.fnMakeDimensionOrPercentTokenExactRow.laid) #[.int .i32 0, .int .i64 0, .string ByteArray.empty] 8 (World.laidAll_os _ _ _)
      (World.shaped_of_ZipB (by kernel_rfl) (by kernel_rfl)) (by kernel_rfl) (by kernel_rfl) (by kernel_rfl)
      (by rw [MakeChecks.laidMetH_plain _ _ _ (by kernel_rfl)]; exact laidMet_laidAll _ (by kernel_rfl) (by kernel_rfl))) ?_
  intro W base args ds gs before hval0 hW hc _ hL _
  have hval : ∀ (j : Nat) t v, Tryd.f4.params[j]? = some t → args[j]? = some v → Value.okWide Tryd.prog W .any base t v := hval0
  have hW' := hW
  obtain ⟨p, q, hA0, hV, rfl, hfz, hnd⟩ := hW
  have hA : DataW.TrodAll enc Tryd.prog W 0 (fun _ => true) true Tryd.f4.params.toList args.toList ds p := hA0
  rw [Tryd.params4] at hA hval
  obtain ⟨v0, vs0, d0, ds0, p0, q0, hargs, rfl, rfl, h0, r0⟩ := trodAll_cons hA
  obtain ⟨v1, vs1, d1, ds1, p1, q1, rfl, rfl, rfl, h1, r1⟩ := trodAll_cons r0
  obtain ⟨v2, vs2, d2, ds2, p2, q2, rfl, rfl, rfl, h2, r2⟩ := trodAll_cons r1
  obtain ⟨rfl, rfl, rfl⟩ := trodAll_nil r2
  obtain rfl : args = #[v0, v1, v2] := by cases args; simp_all
  obtain ⟨rfl, rfl⟩ := trodVars_none hV
  obtain ⟨loc, rfl, rfl, rfl, wloc⟩ := open_int Tryd.underlying21 (hval 0 21 v0 rfl rfl) h0
  obtain ⟨m, rfl, rfl, rfl, wm⟩ := open_int Tryd.underlying2 (hval 1 2 v1 rfl rfl) h1
  obtain ⟨unit, rfl, rfl, rfl, wunit⟩ := open_string Tryd.underlying9 (hval 2 9 v2 rfl rfl) h2
  have hFmt := fmt_laid hL
  have hTab := tab_laid hL
  clear hA0 hval0
  refine (law20_wf loc m unit W wloc wm wunit hFmt hTab).mono fun e W' ⟨he, bel⟩ => ?_
  subst he
  exact ⟨_, rfl, _, _, _, [], _, [], hW', trodAll_mk1 (shut_bool Tryd.underlying4 _), (trodAll_cons_mk (shut_int Tryd.underlying21 wloc) (trodAll_cons_mk (shut_int Tryd.underlying2 wm) (trodAll_cons_mk (shut_string Tryd.underlying9 wunit) (trodAll_mk0)))), rfl, bel.frame _, fun h => by cases h⟩
theorem row_holds : Rows.fnMakeDimensionOrPercentTokenExactRow.holds Tryd.pinned (OpenSpec.ofChange Rows.fnMakeDimensionOrPercentTokenExactSpec) :=
  OpenClaim.holds_of_wide 4 Tryd.f4 rfl rfl rfl rfl rfl rfl rfl ⟨rfl, rfl, rfl, rfl, rfl⟩ rfl rfl rfl rfl rfl (by kernel_rfl) Tryd.func4 (by kernel_rfl)
    (of_decide_eq_true (by kernel_rfl)) (by unfold Func.isWrapper; rw [if_neg (of_decide_eq_false (by kernel_rfl))]; exact ⟨rfl, rfl⟩)
    (fun os started H enc _ => lifted os started H enc)
/-- The statement. -/
theorem proved : Rows.FnMakeDimensionOrPercentTokenExactCardSaid :=
  Claim7.holds_tied_plain_at .later [] [.data, .data, .data, .data, .pinned, .pinned] true (true, "d2885716cb4b4dd7cdbbb49beaa3b04138e9958fe5492cc0dad04f644f07f85e") true
    row_holds (fun _ h => by cases h) (by kernel_rfl) (fun _ h => by cases h) fnMakeDimensionOrPercentTokenExact_row_tie rfl ⟨rfl, rfl⟩ (by kernel_rfl) rfl
    (fun f fn hf hfn => by
      obtain rfl : f = 4 := Option.some.inj ((show Tryd.prog.funcNamed "github.com/evanw/esbuild/n011_277.FnMakeDimensionOrPercentTokenExact" = some 4 by kernel_rfl).symm.trans hf) |>.symm
      obtain rfl : fn = Tryd.f4 := (Option.some.inj (Tryd.func4.symm.trans hfn)).symm
      exact ⟨by kernel_rfl, fun j t ht => by
        rw [Tryd.params4] at ht
        have hm : t ∈ [2, 9, 21] := by
          have := Array.mem_of_getElem? ht
          simp at this
          first | (rcases this with rfl | rfl | rfl | rfl | rfl <;> simp) | (rcases this with rfl | rfl | rfl | rfl <;> simp) | (rcases this with rfl | rfl | rfl <;> simp) | (rcases this with rfl | rfl <;> simp) | (subst this; simp)
        have hall : ([2, 9, 21].all fun u => !Tryd.prog.wantsStandIn u) = true := by kernel_rfl
        exact (show Tryd.prog.wantsStandIn t = false by simpa using List.all_eq_true.1 hall t hm)⟩)
    (by kernel_rfl)
#print axioms proved
end fnMakeDimensionOrPercentTokenExact
end Go.Proofs.YtodlhjdogcpffaaDoor
