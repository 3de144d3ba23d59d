/- mangleRules at the top level, done twice, keeps what it kept once: FnMangleRulesTopLevelIdempotent returns true. The listed variables are tied to the program text. -/
import Derived.Test.YtlbnenmdopcbjaaDoorM7
import Derived.Test.YtlbnenmdopcbjaaDoorM5
import Derived.LaidMore
import Derived.OpenVars
import Derived.Stop.Joined
import Derived.ProofKit
import Derived.OpenShut
import Derived.ShutString
import Derived.ChangeOld
import Derived.Lay
import Derived.SevenTiedAt
import Derived.Stop.JoinedTold
import Derived.Laws.Cover2
import Derived.Test.YtlbnenmdopcbjaaDoorRows
import Derived.Test.YtlbnenmdopcbjaaDoorCards
import Derived.Test.YtlbnenmdopcbjaaDoorTie
namespace Go.Proofs.YtlbnenmdopcbjaaDoor
open Go.ChangeShapes Go.WideShapes Go.ChangeAt Go.RowKit
open Go.ChangeMaps (open_string shut_string)
set_option linter.unusedVariables false
namespace fnMangleRulesTopLevelIdempotent
theorem looks_laid {W : World} (h : laidMetH Tryd.prog Rows.fnMangleRulesTopLevelIdempotentRow.laid W) : LooksUp W := by
  rw [MakeChecks.laidMetH_plain _ _ _ (by kernel_rfl)] at h
  exact looks_of (Lib.laidMet.reads h (List.mem_of_getElem? (show Rows.fnMangleRulesTopLevelIdempotentRow.laid[1]? = some ("github.com/evanw/esbuild/internal/css_parser.atKnownRuleCanBeRemovedIfEmpty", Rows.laid_github_com_evanw_esbuild_internal_css_parser_atKnownRuleCanBeRemovedIfEmpty) from rfl)))
theorem door_met (os : Os) (args : Array Value) : laidMetH Tryd.prog Rows.fnMangleRulesTopLevelIdempotentRow.laid ((World.doorLaid Tryd.prog 648 os).forCall (fun _ _ => 0) ⟨#[], args, []⟩).memory :=
  laidMetH_of_parts3 (fuel := 8) (laidMet_of_run' 8 (by kernel_rfl) (by kernel_rfl)) (by kernel_rfl) (by kernel_rfl)
theorem own : ownKnob Tryd.prog.godebug = none := by kernel_rfl
theorem laidOut : laidOutB Tryd.prog = true := by kernel_rfl
set_option maxRecDepth 100000 in
set_option maxHeartbeats 4000000 in
theorem lifted (os : Os) (started : os.Started) (H : Type) (enc : TypeId × Value → H) :
    ReturnsInHanded {} Tryd.checked os 4 .any (fun w args => (Rows.fnMangleRulesTopLevelIdempotentSpec.pre enc Tryd.prog Tryd.f4 Rows.fnMangleRulesTopLevelIdempotentRow.domain false w args ∧ laidMetH Tryd.prog Rows.fnMangleRulesTopLevelIdempotentRow.laid w) ∧ sizedMet enc Tryd.prog Tryd.f4 (OpenSpec.ofChange Rows.fnMangleRulesTopLevelIdempotentSpec) false w args)
      (Rows.fnMangleRulesTopLevelIdempotentSpec.post enc Tryd.prog Tryd.f4 false true false false) := by
  refine returnsInHanded_of_change_and (C := Tryd.checked) (X := fun w _ => laidMetH Tryd.prog Rows.fnMangleRulesTopLevelIdempotentRow.laid w) (fun _ _ _ hh h => h.of_heap hh) own started (by kernel_rfl) Tryd.func4
    (ChangeSpec.witness_shaped (enc := enc) (C := Tryd.checked) (os := os) (X := fun w _ => laidMetH Tryd.prog Rows.fnMangleRulesTopLevelIdempotentRow.laid w) false (World.doorLaid Tryd.prog 648 os) #[.slice none 0 0, .slice none 0 0, .slice none 0 0] 8 rfl (World.shaped_of_RefB (by kernel_rfl) (by kernel_rfl)) (by kernel_rfl) (by kernel_rfl) (by kernel_rfl) (door_met os _)) ?_
  intro W base args ds gs before hval0 hW hc _ hL _
  have hval : ∀ (j : Nat) t v, Tryd.f4.params[j]? = some t → args[j]? = some v → Value.okWide Tryd.prog W .any base t v := hval0
  have hW' := hW
  obtain ⟨p, q, hA0, hV, rfl, hfz, hnd⟩ := hW
  have hA : DataW.TrodAll enc Tryd.prog W 0 (fun _ => true) true Tryd.f4.params.toList args.toList ds p := hA0
  rw [Tryd.params4] at hA hval
  obtain ⟨v0, vs0, d0, ds0, p0, q0, hargs, rfl, rfl, h0, r0⟩ := trodAll_cons hA
  obtain ⟨v1, vs1, d1, ds1, p1, q1, rfl, rfl, rfl, h1, r1⟩ := trodAll_cons r0
  obtain ⟨v2, vs2, d2, ds2, p2, q2, rfl, rfl, rfl, h2, r2⟩ := trodAll_cons r1
  obtain ⟨rfl, rfl, rfl⟩ := trodAll_nil r2
  obtain rfl : args = #[v0, v1, v2] := by cases args; simp_all
  obtain ⟨_, _, _, _, dg0, _, _, _, _, _, dg1, _, rfl, _⟩ := trodVars_two hV
  obtain ⟨kindsa, kindsn, kindsc, rfl⟩ := okWide_slice Tryd.underlying22 (hval 0 22 v0 rfl rfl)
  have k0 := h0
  have lt0 : ∀ x ∈ p0, x.block < W.heap.size := by obtain ⟨m, hm⟩ := k0; exact DataW.trod_lt m _ _ _ hm
  obtain ⟨wkinds, kindsZ, wkinds2, wkinds3⟩ := ints_of_open Tryd.underlying22 Tryd.underlying5 (by kernel_rfl) h0
  obtain ⟨toksa, toksn, toksc, rfl⟩ := okWide_slice Tryd.underlying22 (hval 1 22 v1 rfl rfl)
  have k1 := h1
  have lt1 : ∀ x ∈ p1, x.block < W.heap.size := by obtain ⟨m, hm⟩ := k1; exact DataW.trod_lt m _ _ _ hm
  obtain ⟨wtoks, toksZ, wtoks2, wtoks3⟩ := ints_of_open Tryd.underlying22 Tryd.underlying5 (by kernel_rfl) h1
  obtain ⟨innera, innern, innerc, rfl⟩ := okWide_slice Tryd.underlying22 (hval 2 22 v2 rfl rfl)
  have k2 := h2
  have lt2 : ∀ x ∈ p2, x.block < W.heap.size := by obtain ⟨m, hm⟩ := k2; exact DataW.trod_lt m _ _ _ hm
  obtain ⟨winner, innerZ, winner2, winner3⟩ := ints_of_open Tryd.underlying22 Tryd.underlying5 (by kernel_rfl) h2
  have hLk := looks_laid hL
  clear hA0 hval0
  refine (law22_wf kindsa kindsn kindsc kindsZ toksa toksn toksc toksZ innera innern innerc innerZ W wkinds wkinds2 wkinds3 wtoks wtoks2 wtoks3 winner winner2 winner3 hLk).mono fun e W' ⟨he, bel⟩ => ?_
  subst he
  exact ⟨_, rfl, _, _, _, [], _, q, hW', trodAll_mk1 (shut_bool Tryd.underlying4 _), (trodAll_cons_mk (Below.trod laidOut (by kernel_rfl) (of_decide_eq_true (by kernel_rfl)) k0 bel lt0) (trodAll_cons_mk (Below.trod laidOut (by kernel_rfl) (of_decide_eq_true (by kernel_rfl)) k1 bel lt1) (trodAll_cons_mk (Below.trod laidOut (by kernel_rfl) (of_decide_eq_true (by kernel_rfl)) k2 bel lt2) (trodAll_mk0)))), Below.trodVars laidOut bel (by kernel_rfl) hV, bel.frame _, fun h => by cases h⟩
theorem row_holds : Rows.fnMangleRulesTopLevelIdempotentRow.holds Tryd.pinned (OpenSpec.ofChange Rows.fnMangleRulesTopLevelIdempotentSpec) :=
  OpenClaim.holds_of_wide 4 Tryd.f4 rfl rfl rfl rfl rfl rfl rfl ⟨rfl, rfl, rfl, rfl, rfl⟩ rfl rfl rfl rfl rfl (by kernel_rfl) Tryd.func4 (by kernel_rfl)
    (of_decide_eq_true (by kernel_rfl)) (by unfold Func.isWrapper; rw [if_neg (of_decide_eq_false (by kernel_rfl))]; exact ⟨rfl, rfl⟩)
    (fun os started H enc _ => lifted os started H enc)
/-- The statement. -/
theorem proved : Rows.FnMangleRulesTopLevelIdempotentCardSaid :=
  Claim7.holds_tied_plain_at .later [] [.mapped, .mapped] true (true, "b17ef6a0bf52a815e969c861cd211699ecafd80abaef3df6bc32401af32b88c0") true
    row_holds (fun _ h => by cases h) (by kernel_rfl) (fun _ h => by cases h) fnMangleRulesTopLevelIdempotent_row_tie rfl ⟨rfl, rfl⟩ (by kernel_rfl) rfl
    (fun f fn hf hfn => by
      obtain rfl : f = 4 := Option.some.inj ((show Tryd.prog.funcNamed "github.com/evanw/esbuild/n011_307.FnMangleRulesTopLevelIdempotent" = some 4 by kernel_rfl).symm.trans hf) |>.symm
      obtain rfl : fn = Tryd.f4 := (Option.some.inj (Tryd.func4.symm.trans hfn)).symm
      exact ⟨by kernel_rfl, fun j t ht => by
        rw [Tryd.params4] at ht
        have hm : t ∈ [22] := by
          have := Array.mem_of_getElem? ht
          simp at this
          first | (rcases this with rfl | rfl | rfl | rfl | rfl <;> simp) | (rcases this with rfl | rfl | rfl | rfl <;> simp) | (rcases this with rfl | rfl | rfl <;> simp) | (rcases this with rfl | rfl <;> simp) | (subst this; simp)
        have hall : ([22].all fun u => !Tryd.prog.wantsStandIn u) = true := by kernel_rfl
        exact (show Tryd.prog.wantsStandIn t = false by simpa using List.all_eq_true.1 hall t hm)⟩)
    (by kernel_rfl)
#print axioms proved
end fnMangleRulesTopLevelIdempotent
end Go.Proofs.YtlbnenmdopcbjaaDoor
