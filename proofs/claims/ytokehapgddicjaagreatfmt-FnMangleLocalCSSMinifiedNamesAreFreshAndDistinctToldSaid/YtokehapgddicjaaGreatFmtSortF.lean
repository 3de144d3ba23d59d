/- sort.Sort over rows of any make: pdqsort, and sort.Sort itself. -/
import Derived.Test.YtokehapgddicjaaGreatFmtSortD
import Derived.Test.YtokehapgddicjaaGreatFmtSortE
import Derived.Sort.AssemblyPlain
import Derived.Shelf.GgSortMore.Bridge
import Derived.Shelf.GgSortFunc.Bridge
import Derived.Deep.Cut
namespace Go.Proofs.YtokehapgddicjaaGreatFmt
open Go.Shelf Go.RowKit Go.Lib
open Go.Sort hiding Below
set_option linter.unusedVariables false
variable {P : Program} {ρ : Ren} {α : Type} [Inhabited α]
variable {T : TypeId} {rv : Value} {gl gs gn : Nat} {lt : α → α → Bool} {n B : Nat} {St : Array α → World → Prop}
set_option maxHeartbeats 12800000 in
set_option maxRecDepth 1000000 in
theorem pdq_any (L : LaysGt.n18 P ρ) (rL : Reaches P T rv "Less" gl) (rS : Reaches P T rv "Swap" gs) (S : Sorts P gl gs rv lt n B St) (hO : SWO lt) (hsz : n < 4611686018427387904) :
    ∀ (N a b limit : Nat) (d : Array α) (w : World), b - a < N → St d w → a ≤ b → b ≤ n → limit < 4611686018427387904 → Go.Sort.Below lt a b d →
    Calls P (ρ.f 18) #[.iface T rv, .int .i64 a, .int .i64 b, .int .i64 limit] w (fun e w' => e = .returned (.tuple #[]) ∧ St (pdq lt d a b limit true true) w' ∧ Kept B w w') := by
  have mixed := L.mixed
  have t0 := L.t0
  have a0 := L.a0
  have z0 := L.z0
  have v0 := L.v0
  have t3 := L.t3
  have a3 := L.a3
  have z3 := L.z3
  have v3 := L.v3
  have t4 := L.t4
  have a4 := L.a4
  have z4 := L.z4
  have v4 := L.v4
  have t5 := L.t5
  have a5 := L.a5
  have z5 := L.z5
  have v5 := L.v5
  have t9 := L.t9
  have a9 := L.a9
  have z9 := L.z9
  have v9 := L.v9
  have t26 := L.t26
  have a26 := L.a26
  have z26 := L.z26
  have v26 := L.v26
  have t38 := L.t38
  have a38 := L.a38
  have z38 := L.z38
  have v38 := L.v38
  have t43 := L.t43
  have a43 := L.a43
  have z43 := L.z43
  have v43 := L.v43
  have t45 := L.t45
  have a45 := L.a45
  have z45 := L.z45
  have v45 := L.v45
  have t47 := L.t47
  have a47 := L.a47
  have z47 := L.z47
  have v47 := L.v47
  have t56 := L.t56
  have a56 := L.a56
  have z56 := L.z56
  have v56 := L.v56
  have t58 := L.t58
  have a58 := L.a58
  have z58 := L.z58
  have v58 := L.v58
  have t60 := L.t60
  have a60 := L.a60
  have z60 := L.z60
  have v60 := L.v60
  have t61 := L.t61
  have a61 := L.a61
  have z61 := L.z61
  have v61 := L.v61
  have t65 := L.t65
  have a65 := L.a65
  have z65 := L.z65
  have v65 := L.v65
  have t67 := L.t67
  have a67 := L.a67
  have z67 := L.z67
  have v67 := L.v67
  have t71 := L.t71
  have a71 := L.a71
  have z71 := L.z71
  have v71 := L.v71
  have t73 := L.t73
  have a73 := L.a73
  have z73 := L.z73
  have v73 := L.v73
  have t74 := L.t74
  have a74 := L.a74
  have z74 := L.z74
  have v74 := L.v74
  have mL : ∀ w, Sem.run P (method (P.types.size + 100) T rv "Less") w = .ok (gl, rv) w := rL.finds
  have eL := rL.enters
  have mS : ∀ w, Sem.run P (method (P.types.size + 100) T rv "Swap") w = .ok (gs, rv) w := rS.finds
  have eS := rS.enters
  have e33 : ∀ args w, (callFunc (ρ.f 33) args).run P w = .ok (.enter (ρ.f 33) args) w := enters_of L.f33 (by kernel_rfl) rfl
  have e34 : ∀ args w, (callFunc (ρ.f 34) args).run P w = .ok (.enter (ρ.f 34) args) w := enters_of L.f34 (by kernel_rfl) rfl
  have e35 : ∀ args w, (callFunc (ρ.f 35) args).run P w = .ok (.enter (ρ.f 35) args) w := enters_of L.f35 (by kernel_rfl) rfl
  have e36 : ∀ args w, (callFunc (ρ.f 36) args).run P w = .ok (.enter (ρ.f 36) args) w := enters_of L.f36 (by kernel_rfl) rfl
  have e37 : ∀ args w, (callFunc (ρ.f 37) args).run P w = .ok (.enter (ρ.f 37) args) w := enters_of L.f37 (by kernel_rfl) rfl
  have e38 : ∀ args w, (callFunc (ρ.f 38) args).run P w = .ok (.enter (ρ.f 38) args) w := enters_of L.f38 (by kernel_rfl) rfl
  have e39 : ∀ args w, (callFunc (ρ.f 39) args).run P w = .ok (.enter (ρ.f 39) args) w := enters_of L.f39 (by kernel_rfl) rfl
  have e40 : ∀ args w, (callFunc (ρ.f 40) args).run P w = .ok (.enter (ρ.f 40) args) w := enters_of L.f40 (by kernel_rfl) rfl
  have e18 : ∀ args w, (callFunc (ρ.f 18) args).run P w = .ok (.enter (ρ.f 18) args) w := enters_of L.f18 (by kernel_rfl) rfl
  intro N
  induction N with
  | zero => intro _ _ _ _ _ h; exact absurd h (Nat.not_lt_zero _)
  | succ N ih =>
    intro a b limit d w hN h hab hb hlimit hBel0
    have H0 := Lib.hid h
    have hds0 := S.size d w h
    clear h
    go_enter L.f18, BodyGt.n18_ntmps ρ
    go_wp2
    go_loopg [1, 2, 3, 8, 9] (b - a) (fun k s1 s2 s3 s8 s9 wr => ∃ (a' b' lim : Nat) (wb wp : Bool) (dk : Array α), s1 = .int .i64 a' ∧ s2 = .int .i64 b' ∧ s3 = .int .i64 lim ∧ s8 = .bool wb ∧ s9 = .bool wp ∧
      a' ≤ b' ∧ b' ≤ n ∧ b' - a' ≤ k ∧ k ≤ b - a ∧ lim ≤ limit ∧ dk.size = n ∧ Go.Sort.Below lt a' b' dk ∧ Hid (St dk wr ∧ Kept B w wr) ∧ Hid (pdq lt dk a' b' lim wb wp = pdq lt d a b limit true true))
    case atStart => exact ⟨a, b, limit, true, true, d, rfl, rfl, rfl, rfl, rfl, hab, hb, Nat.le_refl _, Nat.le_refl _, Nat.le_refl _, hds0, hBel0, ⟨H0.out, Kept.refl _ _⟩, rfl⟩
    case round =>
      obtain ⟨a', b', lim, wb, wp, dk, rfl, rfl, rfl, rfl, rfl, hab', hb', hk, hkN, hlim, hds, hBel, HS, A⟩ := hrel
      by_cases h12 : b' - a' ≤ 12
      · have h12z : (b' : Int) - (a' : Int) ≤ 12 := by omega
        go_wp2_with (go_at_fn (ρ.f 33); refine (insertion_any (P := P) (ρ := ρ) { L with } rL rS S a' b' dk wr HS.out.1 hab' hb' hsz).mono ?_; rintro e w1 ⟨rfl, h1, k1⟩)
        (try simp only [Exit.inBlock, Exit.then]); refine bodyPost_ret (results_none rfl _ _ _) rfl ?_
        exact ⟨rfl, by rw [← A.out, pdq_small h12]; exact h1, HS.out.2.trans k1⟩
      · have h12z : ¬ ((b' : Int) - (a' : Int) ≤ 12) := by omega
        by_cases hl0 : lim = 0
        · subst hl0
          go_wp2_with (go_at_fn (ρ.f 34); refine (heap_any (P := P) (ρ := ρ) { L with } rL rS S a' b' dk wr HS.out.1 hab' hb' hsz).mono ?_; rintro e w1 ⟨rfl, h1, k1⟩)
          (try simp only [Exit.inBlock, Exit.then]); refine bodyPost_ret (results_none rfl _ _ _) rfl ?_
          exact ⟨rfl, by rw [← A.out, pdq_heap h12 rfl]; exact h1, HS.out.2.trans k1⟩
        · have hl0z : ¬ ((lim : Int) = 0) := by omega
          obtain ⟨s1, B1, hc1, s2, B2, hpv, s3, B3⟩ := rd_facts (lt := lt) (limit := lim) (wb := wb) (wp := wp) hO partialInsertionSort_holds reverseRange_holds (show a' < b' by omega) (show b' ≤ dk.size by omega) hBel
          go_upto_if 35 with fail
          go_cut [3] from 19 (fun s3 wc => s3 = .int .i64 (rd lt dk a' b' lim wb wp).lim ∧ Hid (St (rd lt dk a' b' lim wb wp).d1 wc ∧ Kept B w wc))
          case first =>
            cases wb
            · go_wp2_with (go_at_fn (ρ.f 35); refine (break_any (P := P) (ρ := ρ) { L with } rS S a' b' dk wr HS.out.1 hab' hb' hsz).mono ?_; rintro e w1 ⟨rfl, h1, k1⟩)
              go_meet
              case rel =>
                refine ⟨?_, h1, HS.out.2.trans k1⟩
                show Value.int .i64 ((lim : Int) - 1) = Value.int .i64 ((lim - 1 : Nat) : Int)
                congr 1
                omega
            · go_wp2_with fail
              go_meet
              case rel => exact ⟨rfl, HS⟩
          case rest =>
            clear HS
            obtain ⟨rfl, HS1⟩ := hcut
            have hc17 : Calls P (ρ.f 36) #[.iface T rv, .int .i64 a', .int .i64 b'] wc fun e w' => e = .returned (.tuple #[.int .i64 (rd lt dk a' b' lim wb wp).c.1, .int .i64 (hintCode (rd lt dk a' b' lim wb wp).c.2)]) ∧ RowKit.Below wc.heap.size wc w' :=
              pivot_any (P := P) (ρ := ρ) { L with } rL S a' b' wc (rd lt dk a' b' lim wb wp).d1 HS1.out.1 (by omega) (by omega) hsz
            go_upto_if 50 with (go_at_fn (ρ.f 36); refine hc17.mono ?_; rintro e w2 ⟨rfl, hw2⟩)
            have HS2 := Lib.hid (show St (rd lt dk a' b' lim wb wp).d1 w2 ∧ Kept B w w2 from ⟨S.after HS1.out.1 hw2, HS1.out.2.trans (Kept.of_below hw2)⟩)
            clear hw2 hc17 HS1
            go_cut [11, 12] from 19 (fun s11 s12 wc => s11 = .int .i64 (rd lt dk a' b' lim wb wp).pivot ∧ s12 = .int .i64 (hintCode (rd lt dk a' b' lim wb wp).hint) ∧ Hid (St (rd lt dk a' b' lim wb wp).d2 wc ∧ Kept B w wc))
            case first =>
              by_cases hh : (rd lt dk a' b' lim wb wp).c.2 = .decreasing
              · have hcode : hintCode (rd lt dk a' b' lim wb wp).c.2 = 2 := by rw [hh]; rfl
                obtain ⟨e2, epv, eht⟩ := rd_dec hh
                go_wp2_with (go_at_fn (ρ.f 37); refine (reverse_any (P := P) (ρ := ρ) { L with } rS S a' b' (rd lt dk a' b' lim wb wp).d1 w2 HS2.out.1 hab' hb' hsz).mono ?_; rintro e w3 ⟨rfl, h3, k3⟩)
                go_meet
                case rel =>
                  refine ⟨?_, by rw [eht]; rfl, (show _ ∧ _ from by rw [e2]; exact ⟨h3, HS2.out.2.trans k3⟩)⟩
                  rw [epv]
                  congr 1
                  omega
              · have hcode : ¬ (hintCode (rd lt dk a' b' lim wb wp).c.2 = 2) := fun h => hh (hintCode_two h)
                obtain ⟨e2, epv, eht⟩ := rd_not hh
                go_wp2_with fail
                go_meet
                case rel => exact ⟨by rw [epv], by rw [eht], (show _ ∧ _ from by rw [e2]; exact HS2.out)⟩
            case rest =>
              clear HS2
              obtain ⟨rfl, rfl, HS3⟩ := hcut
              go_upto_region 15 with fail
              go_cut [12, 68] from 19 (fun s12 s68 wx => s12 = .int .i64 (hintCode (rd lt dk a' b' lim wb wp).hint) ∧ s68 = .bool (wb && wp && decide ((rd lt dk a' b' lim wb wp).hint = .increasing)) ∧ wx = wc)
              case first =>
                cases wb <;> cases wp <;> cases hh3 : (rd lt dk a' b' lim _ _).hint <;>
                  (have hcode3 := congrArg hintCode hh3
                   simp only [hintCode] at hcode3
                   go_wp2_with fail
                   go_meet
                   exact ⟨by simp [hh3, hintCode], by simp [hh3, hintCode], rfl⟩)
              case rest =>
                obtain ⟨rfl, rfl, rfl⟩ := hcut
                go_upto_if 68 with fail
                go_cut [] from 19 (fun wx => (rd lt dk a' b' lim wb wp).pi.2 = false ∧ Hid (St (rd lt dk a' b' lim wb wp).pi.1 wx ∧ Kept B w wx))
                case first =>
                  cases h68 : (wb && wp && decide ((rd lt dk a' b' lim wb wp).hint = .increasing))
                  · have epi := rd_pi_no h68
                    go_wp2_with fail
                    go_meet
                    case rel => exact ⟨by rw [epi], (show _ ∧ _ from by rw [epi]; exact HS3.out)⟩
                  · have epi := rd_pi_yes h68
                    have hc19 := partIns_any (P := P) (ρ := ρ) { L with } rL rS S a' b' (rd lt dk a' b' lim wb wp).d2 wc HS3.out.1 (by omega) hb' hsz
                    rw [← epi] at hc19
                    go_wp2_with (go_at_fn (ρ.f 38); refine hc19.mono ?_; rintro e w4 ⟨rfl, h4, k4⟩)
                    all_goals first
                      | (have hp2 : (rd lt dk a' b' lim wb wp).pi.2 = false := by rw [epi]; assumption
                         go_meet
                         exact ⟨hp2, h4, HS3.out.2.trans k4⟩)
                      | (have hp2 : (rd lt dk a' b' lim wb wp).pi.2 = true := by rw [epi]; assumption
                         (try simp only [Exit.inBlock, Exit.then]); refine bodyPost_ret (results_none rfl _ _ _) rfl ?_
                         refine ⟨rfl, ?_, HS3.out.2.trans k4⟩
                         rw [← A.out, pdq_done h12 hl0 hp2]
                         exact h4)
                case rest =>
                  clear HS3
                  obtain ⟨hp2, HS5⟩ := hcut
                  go_upto_region 17 with fail
                  go_cut [82] from 19 (fun s82 wx => s82 = .bool (decide (a' > 0) && !lt (rd lt dk a' b' lim wb wp).pi.1[a' - 1]! (rd lt dk a' b' lim wb wp).pi.1[(rd lt dk a' b' lim wb wp).pivot]!) ∧ Hid (St (rd lt dk a' b' lim wb wp).pi.1 wx ∧ Kept B w wx))
                  case first =>
                    rcases Nat.eq_zero_or_pos a' with ha0 | ha0
                    · have ha0z : decide ((a' : Int) > 0) = false := decide_eq_false (by omega)
                      go_wp2_with fail
                      go_meet
                      case rel => exact ⟨by simp [ha0], HS5⟩
                    · have ha0z : (a' : Int) > 0 := by omega
                      cases hlv : lt (rd lt dk a' b' lim wb wp).pi.1[a' - 1]! (rd lt dk a' b' lim wb wp).pi.1[(rd lt dk a' b' lim wb wp).pivot]! <;>
                        (have hl := S.lessAt (d := (rd lt dk a' b' lim wb wp).pi.1) HS5.out.1 (x := (a' : Int) - 1) (y := ((rd lt dk a' b' lim wb wp).pivot : Int)) (a' - 1) (rd lt dk a' b' lim wb wp).pivot (by omega) rfl (by omega) (by omega) _ hlv
                         go_wp2_with (go_at_fn gl; refine hl.mono ?_; rintro e w6 ⟨rfl, h6, k6⟩)
                         go_meet
                         exact ⟨by simp [ha0, hlv], h6, HS5.out.2.trans k6⟩)
                  case rest =>
                    clear HS5
                    obtain ⟨rfl, HS6⟩ := hcut
                    cases h87 : (decide (a' > 0) && !lt (rd lt dk a' b' lim wb wp).pi.1[a' - 1]! (rd lt dk a' b' lim wb wp).pi.1[(rd lt dk a' b' lim wb wp).pivot]!)
                    · obtain ⟨mid, ap, d4, hx⟩ : ∃ mid ap d4, Go.Sort.partition lt (rd lt dk a' b' lim wb wp).pi.1 a' b' (rd lt dk a' b' lim wb wp).pivot = (mid, ap, d4) := ⟨_, _, _, rfl⟩
                      obtain ⟨r1, r2, r3, r4, r5, r6, r7⟩ := round_part hO (partition_holds lt) hpv.1 hpv.2 (show b' ≤ (rd lt dk a' b' lim wb wp).pi.1.size by omega) B3 hx
                      have hc22 := partition_any (P := P) (ρ := ρ) { L with } rL rS S a' b' (rd lt dk a' b' lim wb wp).pivot (rd lt dk a' b' lim wb wp).pi.1 wc HS6.out.1 hpv.1 hpv.2 hb' hsz
                      rw [hx] at hc22
                      have X := Lib.hid hx
                      clear hx
                      go_upto_if 108 with (go_at_fn (ρ.f 40); refine hc22.mono ?_; rintro e w7 ⟨rfl, h7, k7⟩)
                      have hx := X.out
                      have hs4 : d4.size = n := r3.trans (s3.trans hds)
                      have HS7 := Lib.hid (show St d4 w7 ∧ Kept B w w7 from ⟨h7, HS6.out.2.trans k7⟩)
                      clear h7 k7 hc22
                      by_cases h4 : mid - a' < b' - mid
                      · have h4z : (mid : Int) - (a' : Int) < (b' : Int) - (mid : Int) := by omega
                        have hih := ih a' mid (rd lt dk a' b' lim wb wp).lim d4 w7 (by omega) HS7.out.1 (by omega) (by omega) (Nat.lt_of_le_of_lt (Nat.le_trans rd_lim_le hlim) hlimit) r4
                        obtain ⟨pL, sL⟩ := pdq_sorts lt hO d4 a' mid (rd lt dk a' b' lim wb wp).lim true true (by omega) (by omega) r4
                        go_wp2_with (go_at_fn (ρ.f 18); refine hih.mono ?_; rintro e w8 ⟨rfl, h8, k8⟩)
                        go_roundg (b' - (mid + 1))
                        case measure => omega
                        case rel =>
                          refine ⟨mid + 1, b', (rd lt dk a' b' lim wb wp).lim, decide (mid - a' ≥ (b' - a') / 8), ap, pdq lt d4 a' mid (rd lt dk a' b' lim wb wp).lim true true, by simp, rfl, rfl, ?_, rfl, by omega, by omega, Nat.le_refl _, by omega, Nat.le_trans rd_lim_le hlim, by rw [pL.1, hs4], (r6 _ pL sL).1, ⟨h8, HS7.out.2.trans k8⟩, ?_⟩
                          · exact congrArg Value.bool (eighth (by omega) (by omega))
                          · show _ = _
                            rw [← A.out, pdq_left h12 hl0 hp2 h87 (by rw [hx]; exact ⟨r1, r2⟩) (by rw [hx]; exact h4), hx]
                      · have h4z : ¬ ((mid : Int) - (a' : Int) < (b' : Int) - (mid : Int)) := by omega
                        have hih := ih (mid + 1) b' (rd lt dk a' b' lim wb wp).lim d4 w7 (by omega) HS7.out.1 (by omega) (by omega) (Nat.lt_of_le_of_lt (Nat.le_trans rd_lim_le hlim) hlimit) r5
                        rw [show ((mid + 1 : Nat) : Int) = (mid : Int) + 1 by omega] at hih
                        obtain ⟨pL, sL⟩ := pdq_sorts lt hO d4 (mid + 1) b' (rd lt dk a' b' lim wb wp).lim true true (by omega) (by omega) r5
                        go_wp2_with (go_at_fn (ρ.f 18); refine hih.mono ?_; rintro e w8 ⟨rfl, h8, k8⟩)
                        go_roundg (mid - a')
                        case measure => omega
                        case rel =>
                          refine ⟨a', mid, (rd lt dk a' b' lim wb wp).lim, decide (b' - mid ≥ (b' - a') / 8), ap, pdq lt d4 (mid + 1) b' (rd lt dk a' b' lim wb wp).lim true true, rfl, rfl, rfl, ?_, rfl, by omega, by omega, Nat.le_refl _, by omega, Nat.le_trans rd_lim_le hlim, by rw [pL.1, hs4], (r7 _ pL sL).1, ⟨h8, HS7.out.2.trans k8⟩, ?_⟩
                          · exact congrArg Value.bool (eighth (by omega) (by omega))
                          · show _ = _
                            rw [← A.out, pdq_right h12 hl0 hp2 h87 (by rw [hx]; exact ⟨r1, r2⟩) (by rw [hx]; exact h4), hx]
                    · have h87' := h87
                      simp only [Bool.and_eq_true, decide_eq_true_eq, Bool.not_eq_true'] at h87'
                      obtain ⟨mid, d4, hx⟩ : ∃ mid d4, partitionEqual lt (rd lt dk a' b' lim wb wp).pi.1 a' b' (rd lt dk a' b' lim wb wp).pivot = (mid, d4) := ⟨_, _, rfl⟩
                      obtain ⟨r1, r2, r3, r4, _⟩ := round_eq hO (partitionEqual_holds lt) h87'.1 hpv.1 hpv.2 (show b' ≤ (rd lt dk a' b' lim wb wp).pi.1.size by omega) B3 h87'.2 hx
                      have hc21 := partEq_any (P := P) (ρ := ρ) { L with } rL rS S a' b' (rd lt dk a' b' lim wb wp).pivot (rd lt dk a' b' lim wb wp).pi.1 wc HS6.out.1 hpv.1 hpv.2 hb' hsz
                      rw [hx] at hc21
                      have X := Lib.hid hx
                      clear hx
                      go_wp2_with (go_at_fn (ρ.f 39); refine hc21.mono ?_; rintro e w7 ⟨rfl, h7, k7⟩)
                      go_roundg (b' - mid)
                      case measure => omega
                      case rel =>
                        have hx := X.out
                        exact ⟨mid, b', (rd lt dk a' b' lim wb wp).lim, wb, wp, d4, rfl, rfl, rfl, rfl, rfl, r2, hb', Nat.le_refl _, by omega, Nat.le_trans rd_lim_le hlim, by rw [r3, s3, hds], r4, ⟨h7, HS6.out.2.trans k7⟩, (show _ = _ from by rw [← A.out, pdq_eq h12 hl0 hp2 h87 (by rw [hx]; exact ⟨r1, r2⟩), hx])⟩
/-- sort.Sort over a row of any make: a permutation of what stood there, sorted by 'lt'. -/
def Sorted (lt : α → α → Bool) (d d' : Array α) : Prop := PermIn 0 d.size d d' ∧ SortedIn lt 0 d.size d'
set_option maxHeartbeats 1000000 in
set_option maxRecDepth 100000 in
theorem sort_any (L : LaysGt.n11 P ρ) (rN : Reaches P T rv "Len" gn) (rL : Reaches P T rv "Less" gl) (rS : Reaches P T rv "Swap" gs) (S : Sorts P gl gs rv lt n B St) (hO : SWO lt) (hsz : n < 4611686018427387904) (d : Array α) (w : World) (h : St d w)
    (hlen : ∀ w, St d w → Calls P gn #[rv] w (fun e w' => e = .returned (.int .i64 n) ∧ RowKit.Below w.heap.size w w')) :
    Calls P (ρ.f 11) #[.iface T rv] w (fun e w' => e = .returned (.tuple #[]) ∧ (∃ d', Sorted lt d d' ∧ St d' w') ∧ Kept B w w') := by
  have mixed := L.mixed
  have t0 := L.t0
  have a0 := L.a0
  have z0 := L.z0
  have v0 := L.v0
  have t3 := L.t3
  have a3 := L.a3
  have z3 := L.z3
  have v3 := L.v3
  have t4 := L.t4
  have a4 := L.a4
  have z4 := L.z4
  have v4 := L.v4
  have t5 := L.t5
  have a5 := L.a5
  have z5 := L.z5
  have v5 := L.v5
  have t9 := L.t9
  have a9 := L.a9
  have z9 := L.z9
  have v9 := L.v9
  have t26 := L.t26
  have a26 := L.a26
  have z26 := L.z26
  have v26 := L.v26
  have t38 := L.t38
  have a38 := L.a38
  have z38 := L.z38
  have v38 := L.v38
  have t43 := L.t43
  have a43 := L.a43
  have z43 := L.z43
  have v43 := L.v43
  have t45 := L.t45
  have a45 := L.a45
  have z45 := L.z45
  have v45 := L.v45
  have t47 := L.t47
  have a47 := L.a47
  have z47 := L.z47
  have v47 := L.v47
  have t56 := L.t56
  have a56 := L.a56
  have z56 := L.z56
  have v56 := L.v56
  have t58 := L.t58
  have a58 := L.a58
  have z58 := L.z58
  have v58 := L.v58
  have t60 := L.t60
  have a60 := L.a60
  have z60 := L.z60
  have v60 := L.v60
  have t61 := L.t61
  have a61 := L.a61
  have z61 := L.z61
  have v61 := L.v61
  have t65 := L.t65
  have a65 := L.a65
  have z65 := L.z65
  have v65 := L.v65
  have t67 := L.t67
  have a67 := L.a67
  have z67 := L.z67
  have v67 := L.v67
  have t71 := L.t71
  have a71 := L.a71
  have z71 := L.z71
  have v71 := L.v71
  have t73 := L.t73
  have a73 := L.a73
  have z73 := L.z73
  have v73 := L.v73
  have t74 := L.t74
  have a74 := L.a74
  have z74 := L.z74
  have v74 := L.v74
  have mN : ∀ w, Sem.run P (method (P.types.size + 100) T rv "Len") w = .ok (gn, rv) w := rN.finds
  have eN := rN.enters
  have e17 : ∀ args w, (callFunc (ρ.f 17) args).run P w = .ok (.enter (ρ.f 17) args) w := enters_of L.f17 (by kernel_rfl) rfl
  have e18 : ∀ args w, (callFunc (ρ.f 18) args).run P w = .ok (.enter (ρ.f 18) args) w := enters_of L.f18 (by kernel_rfl) rfl
  have hds := S.size d w h
  have hb := fun w => Any.bits_Len (LaysGg.n13.bits (({ L with } : LaysGt.n17 P ρ).elder)) (n : Int) w (by omega) (by omega)
  change ∀ w, Calls P (ρ.f 17) _ w _ at hb
  have wr : IntKind.u64.wrap (n : Int) = n := by simp [IntKind.wrap, IntKind.bits, IntKind.signed]; omega
  have hlim : Lib.bitLen n < 4611686018427387904 := Nat.lt_of_le_of_lt (Lib.bitLen_le n 62 (by omega) (by omega)) (by omega)
  have hp := fun (w1 : World) (h1 : St d w1) => pdq_any (P := P) (ρ := ρ) { L with } rL rS S hO hsz (n + 1) 0 n (Lib.bitLen n) d w1 (by omega) h1 (Nat.zero_le _) (Nat.le_refl _) hlim (Or.inl rfl)
  have hl := hlen w h
  have H0 := Lib.hid h
  have HP := Lib.hid hp
  clear h hlen hp
  by_cases h2 : n ≤ 1
  · have h2z : ((n : Int)) ≤ 1 := by omega
    go_enter L.f11, BodyGt.n11_ntmps ρ
    go_wp2_with (go_at_fn gn; refine hl.mono ?_; rintro e w1 ⟨rfl, h1⟩)
    all_goals first
      | (exfalso; omega)
      | ((try simp only [Exit.inBlock, Exit.then]); refine bodyPost_ret (results_none rfl _ _ _) rfl ?_
         exact ⟨rfl, ⟨d, ⟨⟨rfl, fun _ _ => rfl, List.Perm.refl _⟩, fun i j h0 h1 h2 => by omega⟩, S.after H0.out h1⟩, Kept.of_below h1⟩)
  · have h2z : ¬ ((n : Int)) ≤ 1 := by omega
    go_enter L.f11, BodyGt.n11_ntmps ρ
    go_wp2_with (first
      | (go_at_fn gn; refine hl.mono ?_; rintro e w1 ⟨rfl, h1⟩; have h1' := S.after H0.out h1; have k1 := Kept.of_below (B := B) h1; clear h1)
      | (go_at_fn (ρ.f 17); refine (hb _).mono ?_; rintro e w' ⟨rfl, rfl⟩)
      | (go_at_fn (ρ.f 18); refine (HP.out _ h1').mono ?_; rintro e w3 ⟨rfl, h3, k3⟩))
    all_goals first
      | (exfalso; omega)
      | (go_end0
         have hs := pdq_sorts lt hO d 0 n (Lib.bitLen n) true true (Nat.zero_le _) (by omega) (Or.inl rfl)
         rw [← hds] at hs
         exact ⟨rfl, ⟨_, ⟨hs.1, hs.2⟩, by rw [hds]; exact h3⟩, k1.trans k3⟩)
end Go.Proofs.YtokehapgddicjaaGreatFmt
