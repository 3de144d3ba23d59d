/- sort.Sort's family over rows of any make: partialInsertionSort, breakPatterns. -/
import Derived.Test.YtokehapgddicjaaGreatFmtSortB
import Derived.Sort.WalkA6
import Derived.Sort.Walk7
import Derived.Shelf.SlSortFunc.Xorshift
import Derived.Shelf.GgSortMore.Bridge
namespace Go.Proofs.YtokehapgddicjaaGreatFmt
open Go.Shelf Go.RowKit Go.Lib
open Go.Sort hiding Below
set_option linter.unusedVariables false
variable {P : Program} {ρ : Ren} {α : Type} [Inhabited α]
variable {T : TypeId} {rv : Value} {gl gs : Nat} {lt : α → α → Bool} {n B : Nat} {St : Array α → World → Prop}
set_option maxHeartbeats 16000000 in
set_option maxRecDepth 1000000 in
theorem partIns_any (L : LaysGt.n38 P ρ) (rL : Reaches P T rv "Less" gl) (rS : Reaches P T rv "Swap" gs) (S : Sorts P gl gs rv lt n B St) (a b : Nat) (d : Array α) (w : World) (h : St d w) (hab : a < b) (hb : b ≤ n) (hsz : n < 4611686018427387904) :
    Calls P (ρ.f 38) #[.iface T rv, .int .i64 a, .int .i64 b] w (fun e w' => e = .returned (.bool (Go.Sort.partialInsertionSort lt d a b).2) ∧ St (Go.Sort.partialInsertionSort lt d a b).1 w' ∧ Kept B w w') := by
  have mixed := L.mixed
  have t0 := L.t0
  have a0 := L.a0
  have z0 := L.z0
  have v0 := L.v0
  have t3 := L.t3
  have a3 := L.a3
  have z3 := L.z3
  have v3 := L.v3
  have t4 := L.t4
  have a4 := L.a4
  have z4 := L.z4
  have v4 := L.v4
  have t26 := L.t26
  have a26 := L.a26
  have z26 := L.z26
  have v26 := L.v26
  have t38 := L.t38
  have a38 := L.a38
  have z38 := L.z38
  have v38 := L.v38
  have t43 := L.t43
  have a43 := L.a43
  have z43 := L.z43
  have v43 := L.v43
  have t45 := L.t45
  have a45 := L.a45
  have z45 := L.z45
  have v45 := L.v45
  have mL : ∀ w, Sem.run P (method (P.types.size + 100) T rv "Less") w = .ok (gl, rv) w := rL.finds
  have eL := rL.enters
  have mS : ∀ w, Sem.run P (method (P.types.size + 100) T rv "Swap") w = .ok (gs, rv) w := rS.finds
  have eS := rS.enters
  have H0 := Lib.hid h
  clear h
  go_enter L.f38, BodyGt.n38_ntmps ρ
  go_wp2
  go_loopg [7, 8] 5 (fun g1 vi vs wr => ∃ (i s : Nat) (dk : Array α), vi = .int .i64 i ∧ vs = .int .i64 s ∧ s ≤ 5 ∧ 5 - s ≤ g1 ∧ a < i ∧ i ≤ b ∧ Hid (St dk wr ∧ Kept B w wr) ∧ Hid (partialIns lt a b (5 - s) i dk = partialIns lt a b 5 (a + 1) d))
  case atStart => exact ⟨a + 1, 0, d, by go_num, rfl, by omega, by omega, by omega, by omega, ⟨H0.out, Kept.refl _ _⟩, rfl⟩
  case round =>
    obtain ⟨i, s, dk, rfl, rfl, hs5, hg1, hai, hib, HS, HO⟩ := hrel
    by_cases hs : s < 5
    · have hsz5 : (s : Int) < 5 := by omega
      go_wp2
      go_loopg [7] (b - i) (fun g2 vi wr2 => ∃ (kx : Nat), vi = .int .i64 kx ∧ i ≤ kx ∧ kx ≤ b ∧ b - kx ≤ g2 ∧ Hid (St dk wr2 ∧ Kept B w wr2) ∧ Hid (scanSorted lt dk b kx = scanSorted lt dk b i))
      case atStart => exact ⟨i, rfl, Nat.le_refl _, hib, Nat.le_refl _, HS, rfl⟩
      case round =>
        clear HS
        obtain ⟨kx, rfl, hik, hkb, hg2, HS, HSc⟩ := hrel
        by_cases hkb' : kx < b
        · have hkz : (kx : Int) < (b : Int) := by omega
          cases hlv : lt dk[kx]! dk[kx - 1]! with
          | false =>
            go_wp2_with (go_at_fn gl; refine (S.lessAt (d := dk) HS.out.1 kx (kx - 1) (by omega) (by omega) (by omega) (by omega) false hlv).mono ?_; rintro e w1 ⟨rfl, h1, k1⟩)
            go_roundg (b - (kx + 1))
            case measure => omega
            case rel => exact ⟨kx + 1, by go_num, by omega, by omega, Nat.le_refl _, ⟨h1, HS.out.2.trans k1⟩, (show Hid _ from by rw [← HSc.out, scanSorted_go lt dk b kx hkb' hlv]; exact rfl)⟩
          | true =>
            have HK : Hid (scanSorted lt dk b i = kx) := by show _ = _; rw [← HSc.out, scanSorted_stop lt dk b kx (Or.inr hlv)]
            have hkne : ((kx : Int) == (b : Int)) = false := beq_eq_false_iff_ne.2 (by omega)
            have hl := S.lessAt (d := dk) HS.out.1 (x := (kx : Int)) (y := (kx : Int) - 1) kx (kx - 1) (by omega) (by omega) (by omega) (by omega) true hlv
            by_cases h50 : b - a < 50
            · have h50z : (b : Int) - (a : Int) < 50 := by omega
              go_wp2_with (go_at_fn gl; refine hl.mono ?_; rintro e w1 ⟨rfl, h1, k1⟩)
              have hv : Go.Sort.partialInsertionSort lt d a b = (dk, false) := by
                unfold Go.Sort.partialInsertionSort
                rw [← HO.out, pi_short lt a b s i dk hs (by rw [HK.out]; omega) h50]
              rw [hv]
              go_ret
              exact ⟨rfl, h1, HS.out.2.trans k1⟩
            · have h50z : ¬ ((b : Int) - (a : Int) < 50) := by omega
              by_cases hka : kx - a ≥ 2
              · have hkaz : (2 : Int) ≤ (kx : Int) - (a : Int) := by omega
                go_wp2_with (first | (go_at_fn gl; refine hl.mono ?_; rintro e w1 ⟨rfl, h1, k1⟩) | (go_at_fn gs; refine (S.swapAt (d := dk) h1 kx (kx - 1) (by omega) (by omega) (by omega) (by omega)).mono ?_; rintro e w2 ⟨rfl, h2, k2⟩))
                have HS3 := Lib.hid (And.intro h2 ((HS.out.2.trans k1).trans k2))
                clear h1 k1 h2 k2 HS
                go_loopg [9] (kx - 1) (fun g3 vj wr3 => ∃ (j : Nat) (dj : Array α), vj = .int .i64 j ∧ j ≤ kx - 1 ∧ j ≤ g3 ∧ Hid (St dj wr3 ∧ Kept B w wr3) ∧ Hid (shiftDown lt j dj = shiftDown lt (kx - 1) (swp dk kx (kx - 1))))
                case atStart => exact ⟨kx - 1, swp dk kx (kx - 1), by congr 1; omega, Nat.le_refl _, Nat.le_refl _, HS3, rfl⟩
                case round =>
                  clear HS3
                  obtain ⟨j, dj, rfl, hjk, hg3, HS4, HDn⟩ := hrel
                  by_cases hj1 : 1 ≤ j
                  · have hj1z : (1 : Int) ≤ (j : Int) := by omega
                    cases hlv2 : lt dj[j]! dj[j - 1]! with
                    | true =>
                      have hl2 := S.lessAt (d := dj) HS4.out.1 (x := (j : Int)) (y := (j : Int) - 1) j (j - 1) (by omega) (by omega) (by omega) (by omega) true hlv2
                      go_wp2_with (first | (go_at_fn gl; refine hl2.mono ?_; rintro e w3 ⟨rfl, h3, k3⟩) | (go_at_fn gs; refine (S.swapAt (d := dj) h3 j (j - 1) (by omega) (by omega) (by omega) (by omega)).mono ?_; rintro e w4 ⟨rfl, h4, k4⟩))
                      go_roundg (j - 1)
                      case measure => omega
                      case rel => exact ⟨j - 1, swp dj j (j - 1), by congr 1; omega, by omega, Nat.le_refl _, ⟨h4, (HS4.out.2.trans k3).trans k4⟩, (show Hid _ from by rw [← HDn.out, shiftDown_go lt j dj hj1 hlv2]; exact rfl)⟩
                    | false =>
                      have hl2 := S.lessAt (d := dj) HS4.out.1 (x := (j : Int)) (y := (j : Int) - 1) j (j - 1) (by omega) (by omega) (by omega) (by omega) false hlv2
                      have HD : Hid (fixDown lt a kx (swp dk kx (kx - 1)) = dj) := by show _ = _; unfold fixDown; rw [if_pos hka, ← HDn.out, shiftDown_stop lt j dj (Or.inr hlv2)]
                      by_cases hbk : b - kx ≥ 2
                      · have hbkz : (2 : Int) ≤ (b : Int) - (kx : Int) := by omega
                        go_wp2_with (go_at_fn gl; refine hl2.mono ?_; rintro e w3 ⟨rfl, h3, k3⟩)
                        have HS7 := Lib.hid (And.intro h3 (HS4.out.2.trans k3))
                        clear h3 k3 HS4
                        go_loopg [10] (b - (kx + 1)) (fun g4 vj wr4 => ∃ (ju : Nat) (du : Array α), vj = .int .i64 ju ∧ kx + 1 ≤ ju ∧ ju ≤ b ∧ b - ju ≤ g4 ∧ Hid (St du wr4 ∧ Kept B w wr4) ∧ Hid (shiftUp lt b ju du = shiftUp lt b (kx + 1) dj))
                        case atStart => exact ⟨kx + 1, dj, by go_num, Nat.le_refl _, by omega, Nat.le_refl _, HS7, rfl⟩
                        case round =>
                          clear HS7
                          obtain ⟨ju, du, rfl, hkj, hjb, hg4, HS5, HU⟩ := hrel
                          by_cases hjb' : ju < b
                          · have hjz : (ju : Int) < (b : Int) := by omega
                            cases hlv3 : lt du[ju]! du[ju - 1]! with
                            | true =>
                              have hl3 := S.lessAt (d := du) HS5.out.1 (x := (ju : Int)) (y := (ju : Int) - 1) ju (ju - 1) (by omega) (by omega) (by omega) (by omega) true hlv3
                              go_wp2_with (first | (go_at_fn gl; refine hl3.mono ?_; rintro e w5 ⟨rfl, h5, k5⟩) | (go_at_fn gs; refine (S.swapAt (d := du) h5 ju (ju - 1) (by omega) (by omega) (by omega) (by omega)).mono ?_; rintro e w6 ⟨rfl, h6, k6⟩))
                              go_roundg (b - (ju + 1))
                              case measure => omega
                              case rel => exact ⟨ju + 1, swp du ju (ju - 1), by go_num, by omega, by omega, Nat.le_refl _, ⟨h6, (HS5.out.2.trans k5).trans k6⟩, (show Hid _ from by rw [← HU.out, shiftUp_go lt b ju du hjb' hlv3]; exact rfl)⟩
                            | false =>
                              have hl3 := S.lessAt (d := du) HS5.out.1 (x := (ju : Int)) (y := (ju : Int) - 1) ju (ju - 1) (by omega) (by omega) (by omega) (by omega) false hlv3
                              go_wp2_with (go_at_fn gl; refine hl3.mono ?_; rintro e w5 ⟨rfl, h5, k5⟩)
                              go_roundg (5 - (s + 1))
                              case measure => omega
                              case rel => exact ⟨kx, s + 1, du, rfl, by go_num, by omega, Nat.le_refl _, by omega, by omega, ⟨h5, HS5.out.2.trans k5⟩, (show Hid _ from by rw [← HO.out, pi_go lt a b s i kx dk hs HK.out (by omega) h50, HD.out, show fixUp lt b kx dj = du from by unfold fixUp; rw [if_pos hbk, ← HU.out, shiftUp_stop lt b ju du (Or.inr hlv3)]]; exact rfl)⟩
                          · have hjz : ¬ (ju : Int) < (b : Int) := by omega
                            go_wp2
                            go_roundg (5 - (s + 1))
                            case measure => omega
                            case rel => exact ⟨kx, s + 1, du, rfl, by go_num, by omega, Nat.le_refl _, by omega, by omega, HS5, (show Hid _ from by rw [← HO.out, pi_go lt a b s i kx dk hs HK.out (by omega) h50, HD.out, show fixUp lt b kx dj = du from by unfold fixUp; rw [if_pos hbk, ← HU.out, shiftUp_stop lt b ju du (Or.inl hjb')]]; exact rfl)⟩
                      · have hbkz : ¬ (2 : Int) ≤ (b : Int) - (kx : Int) := by omega
                        go_wp2_with (go_at_fn gl; refine hl2.mono ?_; rintro e w3 ⟨rfl, h3, k3⟩)
                        have HS7 := Lib.hid (And.intro h3 (HS4.out.2.trans k3))
                        clear h3 k3 HS4
                        go_roundg (5 - (s + 1))
                        case measure => omega
                        case rel => exact ⟨kx, s + 1, dj, rfl, by go_num, by omega, Nat.le_refl _, by omega, by omega, HS7, (show Hid _ from by rw [← HO.out, pi_go lt a b s i kx dk hs HK.out (by omega) h50, HD.out, show fixUp lt b kx dj = dj from by unfold fixUp; rw [if_neg hbk]]; exact rfl)⟩
                  · have hj1z : ¬ (1 : Int) ≤ (j : Int) := by omega
                    have HD : Hid (fixDown lt a kx (swp dk kx (kx - 1)) = dj) := by show _ = _; unfold fixDown; rw [if_pos hka, ← HDn.out, shiftDown_stop lt j dj (Or.inl (by omega))]
                    by_cases hbk : b - kx ≥ 2
                    · have hbkz : (2 : Int) ≤ (b : Int) - (kx : Int) := by omega
                      go_wp2
                      skip
                      go_loopg [10] (b - (kx + 1)) (fun g4 vj wr4 => ∃ (ju : Nat) (du : Array α), vj = .int .i64 ju ∧ kx + 1 ≤ ju ∧ ju ≤ b ∧ b - ju ≤ g4 ∧ Hid (St du wr4 ∧ Kept B w wr4) ∧ Hid (shiftUp lt b ju du = shiftUp lt b (kx + 1) dj))
                      case atStart => exact ⟨kx + 1, dj, by go_num, Nat.le_refl _, by omega, Nat.le_refl _, HS4, rfl⟩
                      case round =>
                        clear HS4
                        obtain ⟨ju, du, rfl, hkj, hjb, hg4, HS5, HU⟩ := hrel
                        by_cases hjb' : ju < b
                        · have hjz : (ju : Int) < (b : Int) := by omega
                          cases hlv3 : lt du[ju]! du[ju - 1]! with
                          | true =>
                            have hl3 := S.lessAt (d := du) HS5.out.1 (x := (ju : Int)) (y := (ju : Int) - 1) ju (ju - 1) (by omega) (by omega) (by omega) (by omega) true hlv3
                            go_wp2_with (first | (go_at_fn gl; refine hl3.mono ?_; rintro e w5 ⟨rfl, h5, k5⟩) | (go_at_fn gs; refine (S.swapAt (d := du) h5 ju (ju - 1) (by omega) (by omega) (by omega) (by omega)).mono ?_; rintro e w6 ⟨rfl, h6, k6⟩))
                            go_roundg (b - (ju + 1))
                            case measure => omega
                            case rel => exact ⟨ju + 1, swp du ju (ju - 1), by go_num, by omega, by omega, Nat.le_refl _, ⟨h6, (HS5.out.2.trans k5).trans k6⟩, (show Hid _ from by rw [← HU.out, shiftUp_go lt b ju du hjb' hlv3]; exact rfl)⟩
                          | false =>
                            have hl3 := S.lessAt (d := du) HS5.out.1 (x := (ju : Int)) (y := (ju : Int) - 1) ju (ju - 1) (by omega) (by omega) (by omega) (by omega) false hlv3
                            go_wp2_with (go_at_fn gl; refine hl3.mono ?_; rintro e w5 ⟨rfl, h5, k5⟩)
                            go_roundg (5 - (s + 1))
                            case measure => omega
                            case rel => exact ⟨kx, s + 1, du, rfl, by go_num, by omega, Nat.le_refl _, by omega, by omega, ⟨h5, HS5.out.2.trans k5⟩, (show Hid _ from by rw [← HO.out, pi_go lt a b s i kx dk hs HK.out (by omega) h50, HD.out, show fixUp lt b kx dj = du from by unfold fixUp; rw [if_pos hbk, ← HU.out, shiftUp_stop lt b ju du (Or.inr hlv3)]]; exact rfl)⟩
                        · have hjz : ¬ (ju : Int) < (b : Int) := by omega
                          go_wp2
                          go_roundg (5 - (s + 1))
                          case measure => omega
                          case rel => exact ⟨kx, s + 1, du, rfl, by go_num, by omega, Nat.le_refl _, by omega, by omega, HS5, (show Hid _ from by rw [← HO.out, pi_go lt a b s i kx dk hs HK.out (by omega) h50, HD.out, show fixUp lt b kx dj = du from by unfold fixUp; rw [if_pos hbk, ← HU.out, shiftUp_stop lt b ju du (Or.inl hjb')]]; exact rfl)⟩
                    · have hbkz : ¬ (2 : Int) ≤ (b : Int) - (kx : Int) := by omega
                      go_wp2
                      skip
                      go_roundg (5 - (s + 1))
                      case measure => omega
                      case rel => exact ⟨kx, s + 1, dj, rfl, by go_num, by omega, Nat.le_refl _, by omega, by omega, HS4, (show Hid _ from by rw [← HO.out, pi_go lt a b s i kx dk hs HK.out (by omega) h50, HD.out, show fixUp lt b kx dj = dj from by unfold fixUp; rw [if_neg hbk]]; exact rfl)⟩
              · have hkaz : ¬ (2 : Int) ≤ (kx : Int) - (a : Int) := by omega
                have HD : Hid (fixDown lt a kx (swp dk kx (kx - 1)) = (swp dk kx (kx - 1))) := by show _ = _; unfold fixDown; rw [if_neg hka]
                by_cases hbk : b - kx ≥ 2
                · have hbkz : (2 : Int) ≤ (b : Int) - (kx : Int) := by omega
                  go_wp2_with (first | (go_at_fn gl; refine hl.mono ?_; rintro e w1 ⟨rfl, h1, k1⟩) | (go_at_fn gs; refine (S.swapAt (d := dk) h1 kx (kx - 1) (by omega) (by omega) (by omega) (by omega)).mono ?_; rintro e w2 ⟨rfl, h2, k2⟩))
                  have HS3 := Lib.hid (And.intro h2 ((HS.out.2.trans k1).trans k2))
                  clear h1 k1 h2 k2 HS
                  go_loopg [10] (b - (kx + 1)) (fun g4 vj wr4 => ∃ (ju : Nat) (du : Array α), vj = .int .i64 ju ∧ kx + 1 ≤ ju ∧ ju ≤ b ∧ b - ju ≤ g4 ∧ Hid (St du wr4 ∧ Kept B w wr4) ∧ Hid (shiftUp lt b ju du = shiftUp lt b (kx + 1) (swp dk kx (kx - 1))))
                  case atStart => exact ⟨kx + 1, (swp dk kx (kx - 1)), by go_num, Nat.le_refl _, by omega, Nat.le_refl _, HS3, rfl⟩
                  case round =>
                    clear HS3
                    obtain ⟨ju, du, rfl, hkj, hjb, hg4, HS5, HU⟩ := hrel
                    by_cases hjb' : ju < b
                    · have hjz : (ju : Int) < (b : Int) := by omega
                      cases hlv3 : lt du[ju]! du[ju - 1]! with
                      | true =>
                        have hl3 := S.lessAt (d := du) HS5.out.1 (x := (ju : Int)) (y := (ju : Int) - 1) ju (ju - 1) (by omega) (by omega) (by omega) (by omega) true hlv3
                        go_wp2_with (first | (go_at_fn gl; refine hl3.mono ?_; rintro e w5 ⟨rfl, h5, k5⟩) | (go_at_fn gs; refine (S.swapAt (d := du) h5 ju (ju - 1) (by omega) (by omega) (by omega) (by omega)).mono ?_; rintro e w6 ⟨rfl, h6, k6⟩))
                        go_roundg (b - (ju + 1))
                        case measure => omega
                        case rel => exact ⟨ju + 1, swp du ju (ju - 1), by go_num, by omega, by omega, Nat.le_refl _, ⟨h6, (HS5.out.2.trans k5).trans k6⟩, (show Hid _ from by rw [← HU.out, shiftUp_go lt b ju du hjb' hlv3]; exact rfl)⟩
                      | false =>
                        have hl3 := S.lessAt (d := du) HS5.out.1 (x := (ju : Int)) (y := (ju : Int) - 1) ju (ju - 1) (by omega) (by omega) (by omega) (by omega) false hlv3
                        go_wp2_with (go_at_fn gl; refine hl3.mono ?_; rintro e w5 ⟨rfl, h5, k5⟩)
                        go_roundg (5 - (s + 1))
                        case measure => omega
                        case rel => exact ⟨kx, s + 1, du, rfl, by go_num, by omega, Nat.le_refl _, by omega, by omega, ⟨h5, HS5.out.2.trans k5⟩, (show Hid _ from by rw [← HO.out, pi_go lt a b s i kx dk hs HK.out (by omega) h50, HD.out, show fixUp lt b kx (swp dk kx (kx - 1)) = du from by unfold fixUp; rw [if_pos hbk, ← HU.out, shiftUp_stop lt b ju du (Or.inr hlv3)]]; exact rfl)⟩
                    · have hjz : ¬ (ju : Int) < (b : Int) := by omega
                      go_wp2
                      go_roundg (5 - (s + 1))
                      case measure => omega
                      case rel => exact ⟨kx, s + 1, du, rfl, by go_num, by omega, Nat.le_refl _, by omega, by omega, HS5, (show Hid _ from by rw [← HO.out, pi_go lt a b s i kx dk hs HK.out (by omega) h50, HD.out, show fixUp lt b kx (swp dk kx (kx - 1)) = du from by unfold fixUp; rw [if_pos hbk, ← HU.out, shiftUp_stop lt b ju du (Or.inl hjb')]]; exact rfl)⟩
                · exfalso; omega
        · obtain rfl : kx = b := by omega
          have hkz : ¬ (kx : Int) < (kx : Int) := by omega
          go_wp2
          have hv : Go.Sort.partialInsertionSort lt d a kx = (dk, true) := by
            unfold Go.Sort.partialInsertionSort
            rw [← HO.out, pi_true lt a kx s i dk hs (by rw [← HSc.out, scanSorted_stop lt dk kx kx (Or.inl (by omega))])]
          rw [hv]
          go_ret
          exact ⟨rfl, HS.out⟩
    · obtain rfl : s = 5 := by omega
      go_wp2
      have hv : Go.Sort.partialInsertionSort lt d a b = (dk, false) := by
        unfold Go.Sort.partialInsertionSort
        rw [← HO.out, pi_end]
      rw [hv]
      go_ret
      exact ⟨rfl, HS.out⟩
/-- The random number of breakPatterns, laid at the end of the world W. -/
def Rnd (W : World) (r : Nat) (w : World) : Prop := w.cell? ⟨W.heap.size, 0, none⟩ = some (.int .u64 (r : Int)) ∧ w.frozen? ⟨W.heap.size, 0, none⟩ = false ∧ W.heap.size < w.heap.size
theorem Rnd.kept {W w w' : World} {r : Nat} (h : Rnd W r w) (hk : Kept B w w') (hB : B ≤ W.heap.size) : Rnd W r w' :=
  ⟨(World.cell?_of_block (w := w) (hk.2 _ hB h.2.2)).trans h.1, (World.frozen?_of_block (w := w) (hk.2 _ hB h.2.2)).trans h.2.1, Nat.lt_of_lt_of_le h.2.2 hk.1⟩
theorem Kept.setNew {W w : World} {r : Value} (h : Kept B W w) : Kept B W ((w.setCell ⟨W.heap.size, 0, none⟩ r).drewN 3) :=
  ⟨by simpa [World.setCell] using h.1, fun k h1 h2 => (Below.heap_setCell w _ _ k (Nat.ne_of_lt h2)).trans (h.2 k h1 h2)⟩
theorem below_set {W w : World} (r : Value) (hB : B ≤ W.heap.size) : Below B w ((w.setCell ⟨W.heap.size, 0, none⟩ r).drewN 3) :=
  ((((Below.refl _ _).setCell (p := ⟨W.heap.size, 0, none⟩) hB r).drew).drew).drew
theorem Rnd.set {W w : World} {r : Nat} (h : Rnd W r w) (t : Nat) : Rnd W t ((w.setCell ⟨W.heap.size, 0, none⟩ (.int .u64 (t : Int))).drewN 3) :=
  ⟨by rw [World.cell?_drewN]; exact World.cell?_setCell_same _ _ _ h.1, by rw [World.frozen?_drewN]; simpa using h.2.1, by simpa [World.setCell] using h.2.2⟩
set_option maxHeartbeats 4000000 in
set_option maxRecDepth 1000000 in
theorem breakGo_any (L' : LaysGt.n35 P ρ) (rS : Reaches P T rv "Swap" gs) (S : Sorts P gl gs rv lt n B St) (a L : Nat) (d : Array α) (W : World) (h : St d W) (hb : a + L ≤ n) (hsz : n < 4611686018427387904) (h8 : 8 ≤ L) :
    Calls P (ρ.f 35) #[.iface T rv, .int .i64 a, .int .i64 ((a + L : Nat) : Int)] W (fun e w' => e = .returned (.tuple #[]) ∧ St (breakPatterns d a (a + L)) w' ∧ Kept B W w') := by
  have mixed := L'.mixed
  have t0 := L'.t0
  have a0 := L'.a0
  have z0 := L'.z0
  have v0 := L'.v0
  have t3 := L'.t3
  have a3 := L'.a3
  have z3 := L'.z3
  have v3 := L'.v3
  have t4 := L'.t4
  have a4 := L'.a4
  have z4 := L'.z4
  have v4 := L'.v4
  have t5 := L'.t5
  have a5 := L'.a5
  have z5 := L'.z5
  have v5 := L'.v5
  have t9 := L'.t9
  have a9 := L'.a9
  have z9 := L'.z9
  have v9 := L'.v9
  have t26 := L'.t26
  have a26 := L'.a26
  have z26 := L'.z26
  have v26 := L'.v26
  have t38 := L'.t38
  have a38 := L'.a38
  have z38 := L'.z38
  have v38 := L'.v38
  have t43 := L'.t43
  have a43 := L'.a43
  have z43 := L'.z43
  have v43 := L'.v43
  have t45 := L'.t45
  have a45 := L'.a45
  have z45 := L'.z45
  have v45 := L'.v45
  have t47 := L'.t47
  have a47 := L'.a47
  have z47 := L'.z47
  have v47 := L'.v47
  have t56 := L'.t56
  have a56 := L'.a56
  have z56 := L'.z56
  have v56 := L'.v56
  have t58 := L'.t58
  have a58 := L'.a58
  have z58 := L'.z58
  have v58 := L'.v58
  have t67 := L'.t67
  have a67 := L'.a67
  have z67 := L'.z67
  have v67 := L'.v67
  have t73 := L'.t73
  have a73 := L'.a73
  have z73 := L'.z73
  have v73 := L'.v73
  have mS : ∀ w, Sem.run P (method (P.types.size + 100) T rv "Swap") w = .ok (gs, rv) w := rS.finds
  have eS := rS.enters
  have e44 : ∀ args w, (callFunc (ρ.f 44) args).run P w = .ok (.enter (ρ.f 44) args) w := enters_of L'.f44 (by kernel_rfl) rfl
  have e45 : ∀ args w, (callFunc (ρ.f 45) args).run P w = .ok (.enter (ρ.f 45) args) w := enters_of L'.f45 (by kernel_rfl) rfl
  rw [breakPatterns_eq d a L h8]
  obtain ⟨M, hM⟩ : ∃ M : Nat, M = 1 <<< bitsLen L := ⟨_, rfl⟩
  have hM1 : 1 ≤ M := by rw [hM, Nat.one_shiftLeft]; exact Nat.two_pow_pos _
  have hM2 : M ≤ 2 * L := by rw [hM, Nat.one_shiftLeft]; exact two_pow_bitsLen_le (by omega)
  have hNP : ∀ w, Calls P (ρ.f 44) #[.int .i64 (L : Int)] w fun e w' => e = .returned (.int .u64 (M : Int)) ∧ w' = w := by rw [hM]; exact fun w => Any.nextPowerOfTwo (LaysGt.n44.elder (P := P) (ρ := ρ) { L' with }) L (by omega) w
  rw [← hM]
  clear hM
  have hLz : ((a : Int) + (L : Int) - (a : Int)) = (L : Int) := by omega
  have h8z : (8 : Int) ≤ (L : Int) := by omega
  have hB := S.base d W h
  have hWd : Below B W (W.alloc (.cells #[.int .u64 (L : Int)] (ρ.t 9))) := (Below.refl _ _).alloc hB _
  have H0 := Lib.hid h
  clear h
  go_enter L'.f35, BodyGt.n35_ntmps ρ
  go_wp2_with (first | (go_at_fn (ρ.f 44); refine (hNP _).mono ?_; rintro e w' ⟨rfl, rfl⟩))
  go_loopg [9] 3 (fun g1 vi wr => ∃ (t : Nat) (r : UInt64) (dk : Array α), vi = .int .i64 ((a : Int) + (L : Int) / 4 * 2 - 1 + (t : Int)) ∧ t ≤ 3 ∧ 3 - t ≤ g1 ∧ Hid (St dk wr ∧ Kept B W wr ∧ Rnd W r.toNat wr) ∧
      Hid (bpRest a L M (a + L / 4 * 2 - 1) (3 - t) t (r, dk) = bpRest a L M (a + L / 4 * 2 - 1) 3 0 (UInt64.ofNat L, d)))
  case atStart =>
    refine ⟨0, UInt64.ofNat L, d, by simp, by omega, by omega, ⟨S.keep _ _ _ H0.out ((Below.refl _ _).alloc hB _), Kept.of_below ((Below.refl _ _).alloc (Nat.le_refl _) _), ?_, ?_, ?_⟩, rfl⟩
    · rw [show (UInt64.ofNat L).toNat = L from by simp; omega]
      simp
    · simp
    · simp
  case round =>
    obtain ⟨t, r, dk, rfl, ht, hg1, HS, HR⟩ := hrel
    by_cases ht3 : t < 3
    · have hle : (a : Int) + (L : Int) / 4 * 2 - 1 + (t : Int) ≤ (a : Int) + (L : Int) / 4 * 2 + 1 := by omega
      obtain ⟨R, hRr⟩ : ∃ R : Nat, R = r.toNat := ⟨_, rfl⟩
      have lR : R < 18446744073709551616 := by rw [hRr]; exact r.toNat_lt
      obtain ⟨R', hR'⟩ : ∃ R' : Nat, R' = xorNextN R := ⟨_, rfl⟩
      have lR' : R' < 18446744073709551616 := by rw [hR']; exact xorNextN_lt R lR
      obtain ⟨O, hO⟩ : ∃ O : Nat, O = R' &&& (M - 1) := ⟨_, rfl⟩
      have lO : O ≤ M - 1 := by rw [hO]; exact Nat.and_le_right
      have eAnd : bits .and .u64 (R' : Int) ((M : Int) - 1) = (O : Int) := by
        rw [show ((M : Int) - 1) = ((M - 1 : Nat) : Int) by omega, bits_and_u64_nat _ _ lR' (by omega), hO]
      have hrn := HS.out.2.2
      rw [← hRr] at hrn
      have hNext : Calls P (ρ.f 45) #[.pointer (some ⟨W.heap.size, 0, none⟩)] wr fun e w' => e = .returned (.int .u64 (R' : Int)) ∧ w' = (wr.setCell ⟨W.heap.size, 0, none⟩ (.int .u64 (R' : Int))).drewN 3 := by
        rw [hR']; exact Any.xorshift_Next (LaysGt.n45.elder (P := P) (ρ := ρ) { L' with }) _ _ R lR wr hrn.1 hrn.2.1
      have HN : Hid (R' = (xorNext r).toNat ∧ O = (xorNext r).toNat &&& (M - 1)) := by
        have e : R' = (xorNext r).toNat := by rw [hR', hRr, xorNext_toNat]
        exact ⟨e, by rw [hO, e]⟩
      have HS2 := Lib.hid (show St dk ((wr.setCell ⟨W.heap.size, 0, none⟩ (.int .u64 (R' : Int))).drewN 3) ∧ Kept B W ((wr.setCell ⟨W.heap.size, 0, none⟩ (.int .u64 (R' : Int))).drewN 3) ∧ Rnd W R' ((wr.setCell ⟨W.heap.size, 0, none⟩ (.int .u64 (R' : Int))).drewN 3) from
        ⟨S.keep _ _ _ HS.out.1 (below_set _ hB), HS.out.2.1.setNew, hrn.set R'⟩)
      clear hRr hR' hO hrn HS
      generalize (wr.setCell ⟨W.heap.size, 0, none⟩ (.int .u64 (R' : Int))).drewN 3 = w2 at hNext HS2
      by_cases hLO : L ≤ O
      · have hLOz : (L : Int) ≤ (O : Int) := by omega
        have hs := S.swapAt (d := dk) HS2.out.1 (x := (a : Int) + (L : Int) / 4 * 2 - 1 + (t : Int)) (y := (a : Int) + ((O : Int) - (L : Int))) (a + L / 4 * 2 - 1 + t) (a + (O - L)) (by omega) (by omega) (by omega) (by omega)
        go_wp2_with (first | (go_at_fn (ρ.f 45); refine hNext.mono ?_; rintro e w' ⟨rfl, rfl⟩) | (go_at_fn gs; refine hs.mono ?_; rintro e w3 ⟨rfl, h3, k3⟩))
        go_roundg (3 - (t + 1))
        case measure => omega
        case rel => exact ⟨t + 1, xorNext r, swp dk (a + L / 4 * 2 - 1 + t) (a + (O - L)), by congr 1; push_cast; omega, by omega, Nat.le_refl _, ⟨h3, HS2.out.2.1.trans k3, by rw [← HN.out.1]; exact HS2.out.2.2.kept k3 hB⟩,
          (show Hid _ from by rw [← HR.out, bp_step a L M _ t r dk (O - L) ht3 (by rw [← HN.out.2, if_pos (by omega)])]; exact rfl)⟩
      · have hLOz : ¬ (L : Int) ≤ (O : Int) := by omega
        have hs := S.swapAt (d := dk) HS2.out.1 (x := (a : Int) + (L : Int) / 4 * 2 - 1 + (t : Int)) (y := (a : Int) + (O : Int)) (a + L / 4 * 2 - 1 + t) (a + O) (by omega) (by omega) (by omega) (by omega)
        go_wp2_with (first | (go_at_fn (ρ.f 45); refine hNext.mono ?_; rintro e w' ⟨rfl, rfl⟩) | (go_at_fn gs; refine hs.mono ?_; rintro e w3 ⟨rfl, h3, k3⟩))
        go_roundg (3 - (t + 1))
        case measure => omega
        case rel => exact ⟨t + 1, xorNext r, swp dk (a + L / 4 * 2 - 1 + t) (a + O), by congr 1; push_cast; omega, by omega, Nat.le_refl _, ⟨h3, HS2.out.2.1.trans k3, by rw [← HN.out.1]; exact HS2.out.2.2.kept k3 hB⟩,
          (show Hid _ from by rw [← HR.out, bp_step a L M _ t r dk O ht3 (by rw [← HN.out.2, if_neg (by omega)])]; exact rfl)⟩
    · obtain rfl : t = 3 := by omega
      have hle : ¬ ((a : Int) + (L : Int) / 4 * 2 - 1 + ((3 : Nat) : Int) ≤ (a : Int) + (L : Int) / 4 * 2 + 1) := by omega
      go_wp2
      go_end0
      refine ⟨rfl, ?_, HS.out.2.1⟩
      rw [← HR.out]
      exact HS.out.1
set_option maxHeartbeats 1000000 in
set_option maxRecDepth 100000 in
theorem break_any (L' : LaysGt.n35 P ρ) (rS : Reaches P T rv "Swap" gs) (S : Sorts P gl gs rv lt n B St) (a b : Nat) (d : Array α) (W : World) (h : St d W) (hab : a ≤ b) (hb : b ≤ n) (hsz : n < 4611686018427387904) :
    Calls P (ρ.f 35) #[.iface T rv, .int .i64 a, .int .i64 b] W (fun e w' => e = .returned (.tuple #[]) ∧ St (breakPatterns d a b) w' ∧ Kept B W w') := by
  obtain ⟨L, rfl⟩ : ∃ L, b = a + L := ⟨b - a, by omega⟩
  by_cases h8 : 8 ≤ L
  · exact breakGo_any L' rS S a L d W h hb hsz h8
  · have hv : breakPatterns d a (a + L) = d := by unfold breakPatterns; simp only [Nat.add_sub_cancel_left]; rw [if_neg h8]
    rw [hv]
    have mixed := L'.mixed
    have t0 := L'.t0
    have a0 := L'.a0
    have z0 := L'.z0
    have v0 := L'.v0
    have t3 := L'.t3
    have a3 := L'.a3
    have z3 := L'.z3
    have v3 := L'.v3
    have t4 := L'.t4
    have a4 := L'.a4
    have z4 := L'.z4
    have v4 := L'.v4
    have t5 := L'.t5
    have a5 := L'.a5
    have z5 := L'.z5
    have v5 := L'.v5
    have t9 := L'.t9
    have a9 := L'.a9
    have z9 := L'.z9
    have v9 := L'.v9
    have t26 := L'.t26
    have a26 := L'.a26
    have z26 := L'.z26
    have v26 := L'.v26
    have t38 := L'.t38
    have a38 := L'.a38
    have z38 := L'.z38
    have v38 := L'.v38
    have t43 := L'.t43
    have a43 := L'.a43
    have z43 := L'.z43
    have v43 := L'.v43
    have t45 := L'.t45
    have a45 := L'.a45
    have z45 := L'.z45
    have v45 := L'.v45
    have t47 := L'.t47
    have a47 := L'.a47
    have z47 := L'.z47
    have v47 := L'.v47
    have t56 := L'.t56
    have a56 := L'.a56
    have z56 := L'.z56
    have v56 := L'.v56
    have t58 := L'.t58
    have a58 := L'.a58
    have z58 := L'.z58
    have v58 := L'.v58
    have t67 := L'.t67
    have a67 := L'.a67
    have z67 := L'.z67
    have v67 := L'.v67
    have t73 := L'.t73
    have a73 := L'.a73
    have z73 := L'.z73
    have v73 := L'.v73
    have hLz : ((a : Int) + (L : Int) - (a : Int)) = (L : Int) := by omega
    have h8z : ¬ (8 : Int) ≤ (L : Int) := by omega
    have H0 := Lib.hid h
    clear h
    go_enter L'.f35, BodyGt.n35_ntmps ρ
    go_wp2
    go_end0
    exact ⟨rfl, H0.out, Kept.refl _ _⟩
end Go.Proofs.YtokehapgddicjaaGreatFmt
