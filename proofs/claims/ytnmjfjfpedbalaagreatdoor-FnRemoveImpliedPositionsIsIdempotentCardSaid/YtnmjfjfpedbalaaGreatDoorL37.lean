/- For every gradient kind and up to 256 colour stops, removeImpliedPositions run on a copy of its own output changes nothing: FnRemoveImpliedPositionsIsIdempotent returns true. The listed library variables are tied to the program text. -/
import Derived.Test.YtnmjfjfpedbalaaGreatDoorR13
import Derived.Test.YtnmjfjfpedbalaaGreatDoorVars
import Derived.Stop.Joined
import Derived.ProofKit
import Derived.OpenShut
import Derived.ShutString
import Derived.ChangeOld
import Derived.Lay
import Derived.SevenTiedAt
import Derived.Stop.JoinedTold
import Derived.Laws.Cover2
import Derived.Test.YtnmjfjfpedbalaaGreatDoorRows
import Derived.Test.YtnmjfjfpedbalaaGreatDoorCards
import Derived.Test.YtnmjfjfpedbalaaGreatDoorTie
namespace Go.Proofs.YtnmjfjfpedbalaaGreatDoor
open Go.ChangeShapes Go.WideShapes Go.ChangeAt Go.RowKit
open Go.ChangeMaps (open_string shut_string)
set_option linter.unusedVariables false
namespace fnRemoveImpliedPositionsIsIdempotent
theorem pow_laid : Rows.fnRemoveImpliedPositionsIsIdempotentRow.laid[6]? = some ("internal/strconv.float64pow10", .slice ((List.range 23).map fun i => .lit (.float .f64 (fint false (10 ^ i)))) []) := by kernel_rfl
theorem own : ownKnob Tryz.prog.godebug = none := by kernel_rfl
theorem laidOut : laidOutB Tryz.prog = true := by kernel_rfl
set_option maxRecDepth 100000 in
set_option maxHeartbeats 4000000 in
theorem lifted (os : Os) (started : os.Started) (H : Type) (enc : TypeId × Value → H) :
    ReturnsInHanded {} Tryz.checked os 3 .any (fun w args => (Rows.fnRemoveImpliedPositionsIsIdempotentSpec.pre enc Tryz.prog Tryz.f3 Rows.fnRemoveImpliedPositionsIsIdempotentRow.domain false w args ∧ laidMetH Tryz.prog Rows.fnRemoveImpliedPositionsIsIdempotentRow.laid w) ∧ sizedMet enc Tryz.prog Tryz.f3 (OpenSpec.ofChange Rows.fnRemoveImpliedPositionsIsIdempotentSpec) false w args)
      (Rows.fnRemoveImpliedPositionsIsIdempotentSpec.post enc Tryz.prog Tryz.f3 false true false false) := by
  refine returnsInHanded_of_change_and (C := Tryz.checked) (X := fun w _ => laidMetH Tryz.prog Rows.fnRemoveImpliedPositionsIsIdempotentRow.laid w) (fun _ _ _ hh h => h.of_heap hh) own started (by kernel_rfl) Tryz.func3
    (ChangeSpec.witness_shaped (enc := enc) (C := Tryz.checked) (os := os) (X := fun w _ => laidMetH Tryz.prog Rows.fnRemoveImpliedPositionsIsIdempotentRow.laid w) false (World.laidAll Tryz.prog os Rows.fnRemoveImpliedPositionsIsIdempotentRow.laid) #[.int .u8 0, .slice none 0 0, .slice none 0 0] 8 (World.laidAll_os _ _ _)
      (World.shaped_of_ZipB (by kernel_rfl) (by kernel_rfl)) (by kernel_rfl) (by kernel_rfl) (by kernel_rfl)
      (by rw [MakeChecks.laidMetH_plain _ _ _ (by kernel_rfl)]; exact laidMet_laidAll _ (by kernel_rfl) (by kernel_rfl))) ?_
  intro W base args ds gs before hval0 hW hc _ hL _
  have hval : ∀ (j : Nat) t v, Tryz.f3.params[j]? = some t → args[j]? = some v → Value.okWide Tryz.prog W .any base t v := hval0
  have hW' := hW
  obtain ⟨p, q, hA0, hV, rfl, hfz, hnd⟩ := hW
  have hA : DataW.TrodAll enc Tryz.prog W 0 (fun _ => true) true Tryz.f3.params.toList args.toList ds p := hA0
  rw [Tryz.params3] at hA hval
  obtain ⟨v0, vs0, d0, ds0, p0, q0, hargs, rfl, rfl, h0, r0⟩ := trodAll_cons hA
  obtain ⟨v1, vs1, d1, ds1, p1, q1, rfl, rfl, rfl, h1, r1⟩ := trodAll_cons r0
  obtain ⟨v2, vs2, d2, ds2, p2, q2, rfl, rfl, rfl, h2, r2⟩ := trodAll_cons r1
  obtain ⟨rfl, rfl, rfl⟩ := trodAll_nil r2
  obtain rfl : args = #[v0, v1, v2] := by cases args; simp_all
  obtain ⟨rfl, rfl⟩ := trodVars_none hV
  obtain ⟨kind, rfl, rfl, rfl, wkind⟩ := open_int Tryz.underlying5 (hval 0 5 v0 rfl rfl) h0
  obtain ⟨shapea, shapen, shapec, rfl⟩ := okWide_slice Tryz.underlying22 (hval 1 22 v1 rfl rfl)
  have k1 := h1
  have lt1 : ∀ x ∈ p1, x.block < W.heap.size := by obtain ⟨m, hm⟩ := k1; exact DataW.trod_lt m _ _ _ hm
  obtain ⟨wshape, shapeZ, wshape2, wshape3⟩ := ints_of_open Tryz.underlying22 Tryz.underlying5 (by kernel_rfl) h1
  obtain ⟨valsa, valsn, valsc, rfl⟩ := okWide_slice Tryz.underlying23 (hval 2 23 v2 rfl rfl)
  have k2 := h2
  have lt2 : ∀ x ∈ p2, x.block < W.heap.size := by obtain ⟨m, hm⟩ := k2; exact DataW.trod_lt m _ _ _ hm
  obtain ⟨wvals, valsZ, wvals2, wvals3⟩ := ints_of_open Tryz.underlying23 Tryz.underlying67 (by kernel_rfl) h2
  have hPow := powVars_of_laid (fltVars_of_laid hL (by kernel_rfl) 3 4 rfl rfl) hL (by kernel_rfl) 6 pow_laid
  clear hA0 hval0
  refine (law37_wf kind shapea shapen shapec shapeZ valsa valsn valsc valsZ W wkind wshape wshape2 wshape3 wvals wvals2 wvals3 hPow).mono fun e W' ⟨he, bel⟩ => ?_
  subst he
  exact ⟨_, rfl, _, _, _, [], _, [], hW', trodAll_mk1 (shut_bool Tryz.underlying4 _), (trodAll_cons_mk (shut_int Tryz.underlying5 wkind) (trodAll_cons_mk (Below.trod laidOut (by kernel_rfl) (of_decide_eq_true (by kernel_rfl)) k1 bel lt1) (trodAll_cons_mk (Below.trod laidOut (by kernel_rfl) (of_decide_eq_true (by kernel_rfl)) k2 bel lt2) (trodAll_mk0)))), rfl, bel.frame _, fun h => by cases h⟩
theorem row_holds : Rows.fnRemoveImpliedPositionsIsIdempotentRow.holds Tryz.pinned (OpenSpec.ofChange Rows.fnRemoveImpliedPositionsIsIdempotentSpec) :=
  OpenClaim.holds_of_wide 3 Tryz.f3 rfl rfl rfl rfl rfl rfl rfl ⟨rfl, rfl, rfl, rfl, rfl⟩ rfl rfl rfl rfl rfl (by kernel_rfl) Tryz.func3 (by kernel_rfl)
    (of_decide_eq_true (by kernel_rfl)) (by unfold Func.isWrapper; rw [if_neg (of_decide_eq_false (by kernel_rfl))]; exact ⟨rfl, rfl⟩)
    (fun os started H enc _ => lifted os started H enc)
/-- The statement. -/
theorem proved : Rows.FnRemoveImpliedPositionsIsIdempotentCardSaid :=
  Claim7.holds_tied_plain_at .later [] [.data, .data, .widerDeep, .widerDeep, .data, .data, .data, .data, .data, .sentinel, .sentinel, .pinned, .pinned] true (true, "10028a65fbbb17e22508fc1306760415315ec2ba4c8e502fe0671070d8ba90c6") true
    row_holds (fun _ h => by cases h) (by kernel_rfl) (fun _ h => by cases h) fnRemoveImpliedPositionsIsIdempotent_row_tie rfl ⟨rfl, rfl⟩ (by kernel_rfl) rfl
    (fun f fn hf hfn => by
      obtain rfl : f = 3 := Option.some.inj ((show Tryz.prog.funcNamed "github.com/evanw/esbuild/n011_258.FnRemoveImpliedPositionsIsIdempotent" = some 3 by kernel_rfl).symm.trans hf) |>.symm
      obtain rfl : fn = Tryz.f3 := (Option.some.inj (Tryz.func3.symm.trans hfn)).symm
      exact ⟨by kernel_rfl, fun j t ht => by
        rw [Tryz.params3] at ht
        have hm : t ∈ [5, 22, 23] := by
          have := Array.mem_of_getElem? ht
          simp at this
          first | (rcases this with rfl | rfl | rfl | rfl | rfl <;> simp) | (rcases this with rfl | rfl | rfl | rfl <;> simp) | (rcases this with rfl | rfl | rfl <;> simp) | (rcases this with rfl | rfl <;> simp) | (subst this; simp)
        have hall : ([5, 22, 23].all fun u => !Tryz.prog.wantsStandIn u) = true := by kernel_rfl
        exact (show Tryz.prog.wantsStandIn t = false by simpa using List.all_eq_true.1 hall t hm)⟩)
    (by kernel_rfl)
#print axioms proved
end fnRemoveImpliedPositionsIsIdempotent
end Go.Proofs.YtnmjfjfpedbalaaGreatDoor
