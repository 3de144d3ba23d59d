/- For |m| <= 2^40, any unit and any gradient kind (units other than the percent sign for kinds that are not conic) tryToParseValue reads the token that makeDimensionOrPercentToken(m/100, unit) makes back as the value m/100 and that unit: FnMakeDimensionOrPercentTokenParsesBack returns true. The listed library variables are tied to the program text. -/
import Derived.Test.YtodlhjdogcpffaaGreatDoorLaw18
import Derived.Test.YtodlhjdogcpffaaGreatDoorVars
import Derived.Stop.Joined
import Derived.ProofKit
import Derived.OpenShut
import Derived.ShutString
import Derived.ChangeOld
import Derived.Lay
import Derived.SevenTiedAt
import Derived.Stop.JoinedTold
import Derived.Laws.Cover2
import Derived.Test.YtodlhjdogcpffaaGreatDoorRows
import Derived.Test.YtodlhjdogcpffaaGreatDoorCards
import Derived.Test.YtodlhjdogcpffaaGreatDoorTie
namespace Go.Proofs.YtodlhjdogcpffaaGreatDoor
open Go.ChangeShapes Go.WideShapes Go.ChangeAt Go.RowKit
open Go.ChangeMaps (open_string shut_string)
set_option linter.unusedVariables false
namespace fnMakeDimensionOrPercentTokenParsesBack
theorem tab_laid {W : World} (h : laidMetH Tryz.prog Rows.fnMakeDimensionOrPercentTokenParsesBackRow.laid W) : Lib.TabIs Tryz.prog W "internal/strconv.uint64pow10" .u64 Lib.pow10Tab := by
  rw [MakeChecks.laidMetH_plain _ _ _ (by kernel_rfl)] at h
  exact tab_of_laid (Lib.laidMet.reads h (List.mem_of_getElem? (show Rows.fnMakeDimensionOrPercentTokenParsesBackRow.laid[8]? = some ("internal/strconv.uint64pow10", Lib.tabData .u64 Lib.pow10Tab) by kernel_rfl)))
theorem fmt_laid {W : World} (h : laidMetH Tryz.prog Rows.fnMakeDimensionOrPercentTokenParsesBackRow.laid W) : FmtVars W := by
  have ht := tab_laid h
  rw [MakeChecks.laidMetH_plain _ _ _ (by kernel_rfl)] at h
  exact fmtVars_of (Lib.laidMet.reads h (List.mem_of_getElem? (show Rows.fnMakeDimensionOrPercentTokenParsesBackRow.laid[12]? = some ("internal/strconv.pow10Tab", Go.Pinned.pow10Tab) from rfl))) ht (opt_of_laid (Lib.laidMet.reads h (List.mem_of_getElem? (show Rows.fnMakeDimensionOrPercentTokenParsesBackRow.laid[4]? = some ("internal/strconv.optimize", .lit (.bool true)) from rfl))))
theorem pow_laid : Rows.fnMakeDimensionOrPercentTokenParsesBackRow.laid[6]? = some ("internal/strconv.float64pow10", .slice ((List.range 23).map fun i => .lit (.float .f64 (fint false (10 ^ i)))) []) := by kernel_rfl
theorem own : ownKnob Tryz.prog.godebug = none := by kernel_rfl
theorem laidOut : laidOutB Tryz.prog = true := by kernel_rfl
set_option maxRecDepth 100000 in
set_option maxHeartbeats 4000000 in
theorem lifted (os : Os) (started : os.Started) (H : Type) (enc : TypeId × Value → H) :
    ReturnsInHanded {} Tryz.checked os 3 .any (fun w args => (Rows.fnMakeDimensionOrPercentTokenParsesBackSpec.pre enc Tryz.prog Tryz.f3 Rows.fnMakeDimensionOrPercentTokenParsesBackRow.domain false w args ∧ laidMetH Tryz.prog Rows.fnMakeDimensionOrPercentTokenParsesBackRow.laid w) ∧ sizedMet enc Tryz.prog Tryz.f3 (OpenSpec.ofChange Rows.fnMakeDimensionOrPercentTokenParsesBackSpec) false w args)
      (Rows.fnMakeDimensionOrPercentTokenParsesBackSpec.post enc Tryz.prog Tryz.f3 false true false false) := by
  refine returnsInHanded_of_change_and (C := Tryz.checked) (X := fun w _ => laidMetH Tryz.prog Rows.fnMakeDimensionOrPercentTokenParsesBackRow.laid w) (fun _ _ _ hh h => h.of_heap hh) own started (by kernel_rfl) Tryz.func3
    (ChangeSpec.witness_shaped (enc := enc) (C := Tryz.checked) (os := os) (X := fun w _ => laidMetH Tryz.prog Rows.fnMakeDimensionOrPercentTokenParsesBackRow.laid w) false (World.laidAll Tryz.prog os Rows.fnMakeDimensionOrPercentTokenParsesBackRow.laid) #[.int .i64 0, .string ByteArray.empty, .int .u8 0] 8 (World.laidAll_os _ _ _)
      (World.shaped_of_ZipB (by kernel_rfl) (by kernel_rfl)) (by kernel_rfl) (by kernel_rfl) (by kernel_rfl)
      (by rw [MakeChecks.laidMetH_plain _ _ _ (by kernel_rfl)]; exact laidMet_laidAll _ (by kernel_rfl) (by kernel_rfl))) ?_
  intro W base args ds gs before hval0 hW hc _ hL _
  have hval : ∀ (j : Nat) t v, Tryz.f3.params[j]? = some t → args[j]? = some v → Value.okWide Tryz.prog W .any base t v := hval0
  have hW' := hW
  obtain ⟨p, q, hA0, hV, rfl, hfz, hnd⟩ := hW
  have hA : DataW.TrodAll enc Tryz.prog W 0 (fun _ => true) true Tryz.f3.params.toList args.toList ds p := hA0
  rw [Tryz.params3] at hA hval
  obtain ⟨v0, vs0, d0, ds0, p0, q0, hargs, rfl, rfl, h0, r0⟩ := trodAll_cons hA
  obtain ⟨v1, vs1, d1, ds1, p1, q1, rfl, rfl, rfl, h1, r1⟩ := trodAll_cons r0
  obtain ⟨v2, vs2, d2, ds2, p2, q2, rfl, rfl, rfl, h2, r2⟩ := trodAll_cons r1
  obtain ⟨rfl, rfl, rfl⟩ := trodAll_nil r2
  obtain rfl : args = #[v0, v1, v2] := by cases args; simp_all
  obtain ⟨rfl, rfl⟩ := trodVars_none hV
  obtain ⟨m, rfl, rfl, rfl, wm⟩ := open_int Tryz.underlying2 (hval 0 2 v0 rfl rfl) h0
  obtain ⟨unit, rfl, rfl, rfl, wunit⟩ := open_string Tryz.underlying9 (hval 1 9 v1 rfl rfl) h1
  obtain ⟨kind, rfl, rfl, rfl, wkind⟩ := open_int Tryz.underlying5 (hval 2 5 v2 rfl rfl) h2
  have hFmt := fmt_laid hL
  have hPow := powVars_of_laid (fltVars_of_laid hL (by kernel_rfl) 3 4 rfl rfl) hL (by kernel_rfl) 6 pow_laid
  have hTab := tab_laid hL
  clear hA0 hval0
  refine (law18_wf m unit kind W wm wunit wkind hFmt hPow hTab).mono fun e W' ⟨he, bel⟩ => ?_
  subst he
  exact ⟨_, rfl, _, _, _, [], _, [], hW', trodAll_mk1 (shut_bool Tryz.underlying4 _), (trodAll_cons_mk (shut_int Tryz.underlying2 wm) (trodAll_cons_mk (shut_string Tryz.underlying9 wunit) (trodAll_cons_mk (shut_int Tryz.underlying5 wkind) (trodAll_mk0)))), rfl, bel.frame _, fun h => by cases h⟩
theorem row_holds : Rows.fnMakeDimensionOrPercentTokenParsesBackRow.holds Tryz.pinned (OpenSpec.ofChange Rows.fnMakeDimensionOrPercentTokenParsesBackSpec) :=
  OpenClaim.holds_of_wide 3 Tryz.f3 rfl rfl rfl rfl rfl rfl rfl ⟨rfl, rfl, rfl, rfl, rfl⟩ rfl rfl rfl rfl rfl (by kernel_rfl) Tryz.func3 (by kernel_rfl)
    (of_decide_eq_true (by kernel_rfl)) (by unfold Func.isWrapper; rw [if_neg (of_decide_eq_false (by kernel_rfl))]; exact ⟨rfl, rfl⟩)
    (fun os started H enc _ => lifted os started H enc)
/-- The statement. -/
theorem proved : Rows.FnMakeDimensionOrPercentTokenParsesBackCardSaid :=
  Claim7.holds_tied_plain_at .later [] [.data, .data, .widerDeep, .widerDeep, .data, .data, .data, .data, .data, .sentinel, .sentinel, .pinned, .pinned] true (true, "2c35a085ef05fb8beccc8b9f9dcf7db309dbc46ee9ff5fb72e24a0f329d27a82") true
    row_holds (fun _ h => by cases h) (by kernel_rfl) (fun _ h => by cases h) fnMakeDimensionOrPercentTokenParsesBack_row_tie rfl ⟨rfl, rfl⟩ (by kernel_rfl) rfl
    (fun f fn hf hfn => by
      obtain rfl : f = 3 := Option.some.inj ((show Tryz.prog.funcNamed "github.com/evanw/esbuild/n011_277.FnMakeDimensionOrPercentTokenParsesBack" = some 3 by kernel_rfl).symm.trans hf) |>.symm
      obtain rfl : fn = Tryz.f3 := (Option.some.inj (Tryz.func3.symm.trans hfn)).symm
      exact ⟨by kernel_rfl, fun j t ht => by
        rw [Tryz.params3] at ht
        have hm : t ∈ [2, 5, 9] := by
          have := Array.mem_of_getElem? ht
          simp at this
          first | (rcases this with rfl | rfl | rfl | rfl | rfl <;> simp) | (rcases this with rfl | rfl | rfl | rfl <;> simp) | (rcases this with rfl | rfl | rfl <;> simp) | (rcases this with rfl | rfl <;> simp) | (subst this; simp)
        have hall : ([2, 5, 9].all fun u => !Tryz.prog.wantsStandIn u) = true := by kernel_rfl
        exact (show Tryz.prog.wantsStandIn t = false by simpa using List.all_eq_true.1 hall t hm)⟩)
    (by kernel_rfl)
#print axioms proved
end fnMakeDimensionOrPercentTokenParsesBack
end Go.Proofs.YtodlhjdogcpffaaGreatDoor
