/- sort.Sort's family over rows of any make: partitionEqual, partition. -/
import Derived.Test.YtokehapgddicjaaGreatFmtSortC
namespace Go.Proofs.YtokehapgddicjaaGreatFmt
open Go.Shelf Go.RowKit Go.Lib
open Go.Sort hiding Below
set_option linter.unusedVariables false
variable {P : Program} {ρ : Ren} {α : Type} [Inhabited α]
variable {T : TypeId} {rv : Value} {gl gs : Nat} {lt : α → α → Bool} {n B : Nat} {St : Array α → World → Prop}
set_option maxHeartbeats 4000000 in
set_option maxRecDepth 100000 in
theorem partEq_any (L : LaysGt.n39 P ρ) (rL : Reaches P T rv "Less" gl) (rS : Reaches P T rv "Swap" gs) (S : Sorts P gl gs rv lt n B St) (a b pivot : Nat) (d : Array α) (W : World) (h : St d W) (hap : a ≤ pivot) (hpb : pivot < b) (hb : b ≤ n) (hsz : n < 4611686018427387904) :
    Calls P (ρ.f 39) #[.iface T rv, .int .i64 a, .int .i64 b, .int .i64 pivot] W (fun e w' => e = .returned (.int .i64 (partitionEqual lt d a b pivot).1) ∧ St (partitionEqual lt d a b pivot).2 w' ∧ Kept B W w') := by
  have mixed := L.mixed
  have t0 := L.t0
  have a0 := L.a0
  have z0 := L.z0
  have v0 := L.v0
  have t3 := L.t3
  have a3 := L.a3
  have z3 := L.z3
  have v3 := L.v3
  have t4 := L.t4
  have a4 := L.a4
  have z4 := L.z4
  have v4 := L.v4
  have t26 := L.t26
  have a26 := L.a26
  have z26 := L.z26
  have v26 := L.v26
  have t38 := L.t38
  have a38 := L.a38
  have z38 := L.z38
  have v38 := L.v38
  have t43 := L.t43
  have a43 := L.a43
  have z43 := L.z43
  have v43 := L.v43
  have t45 := L.t45
  have a45 := L.a45
  have z45 := L.z45
  have v45 := L.v45
  have mL : ∀ w, Sem.run P (method (P.types.size + 100) T rv "Less") w = .ok (gl, rv) w := rL.finds
  have eL := rL.enters
  have mS : ∀ w, Sem.run P (method (P.types.size + 100) T rv "Swap") w = .ok (gs, rv) w := rS.finds
  have eS := rS.enters
  have H0 := Lib.hid h
  clear h
  go_enter L.f39, BodyGt.n39_ntmps ρ
  go_wp2_with (go_at_fn gs; refine (S.swapAt (d := d) H0.out a pivot rfl rfl (by omega) (by omega)).mono ?_; rintro e w0 ⟨rfl, h0, k0⟩)
  have HW := Lib.hid (And.intro h0 k0)
  clear h0 k0
  go_loopw [9, 10] (fun vi vj wr => ∃ (i j : Nat) (dk : Array α), vi = .int .i64 i ∧ vj = .int .i64 j ∧ a < i ∧ i ≤ j + 1 ∧ j < b ∧ Hid (St dk wr ∧ Kept B W wr) ∧ Hid (partEqLoop lt a i j dk = partEqLoop lt a (a + 1) (b - 1) (swp d a pivot)))
    (fun vi vj _ => (intOf vj).toNat + 1 - (intOf vi).toNat)
  case atStart => exact ⟨a + 1, b - 1, swp d a pivot, by go_num, by go_num, by omega, by omega, by omega, HW.out, rfl⟩
  case round =>
    obtain ⟨i, j, dk, rfl, rfl, hai, hij, hjb, HS, AE⟩ := hrel
    clear HW
    go_wp2
    go_loopw [9] (fun vi w1 => ∃ (i' : Nat), vi = .int .i64 i' ∧ i ≤ i' ∧ i' ≤ j + 1 ∧ Hid (St dk w1 ∧ Kept B W w1) ∧ Hid (scanUp (fun x => !lt dk[a]! x) dk j i' = scanUp (fun x => !lt dk[a]! x) dk j i))
      (fun vi _ => j + 1 - (intOf vi).toNat)
    case atStart => exact ⟨i, rfl, Nat.le_refl _, hij, HS, rfl⟩
    case round =>
      obtain ⟨i', rfl, hii, hij', HS1, hsc⟩ := hrel
      clear HS
      by_cases hle : i' ≤ j
      · cases hlv : lt dk[a]! dk[i']! with
        | false =>
          have hl := S.lessAt (d := dk) HS1.out.1 (x := (a : Int)) (y := (i' : Int)) a i' rfl rfl (by omega) (by omega) false hlv
          go_wp2_with (go_at_fn gl; refine hl.mono ?_; rintro e w1 ⟨rfl, h1, k1⟩)
          go_roundw
          case rel => exact ⟨i' + 1, by go_num, by omega, by omega, ⟨h1, HS1.out.2.trans k1⟩, (scanUp_go (fun x => !lt dk[a]! x) dk j i' hle (by simp [hlv])).symm.trans hsc.out⟩
          case measure => simp [intOf]; omega
        | true =>
          have hl := S.lessAt (d := dk) HS1.out.1 (x := (a : Int)) (y := (i' : Int)) a i' rfl rfl (by omega) (by omega) true hlv
          have hi2 : Hid (i' = scanUp (fun x => !lt dk[a]! x) dk j i) := (scanUp_end (fun x => !lt dk[a]! x) dk j i' (Or.inr (by simp [hlv]))).symm.trans hsc.out
          go_wp2_with (go_at_fn gl; refine hl.mono ?_; rintro e w1 ⟨rfl, h1, k1⟩)
          have HS2 := Lib.hid (And.intro h1 (HS1.out.2.trans k1))
          clear h1 k1 hsc HS1
          go_loopw [10] (fun vj w2 => ∃ (j' : Nat), vj = .int .i64 j' ∧ j' ≤ j ∧ i' ≤ j' + 1 ∧ Hid (St dk w2 ∧ Kept B W w2) ∧ Hid (scanDown (fun x => lt dk[a]! x) dk i' j' = scanDown (fun x => lt dk[a]! x) dk i' j))
            (fun vj _ => (intOf vj).toNat)
          case atStart => exact ⟨j, rfl, Nat.le_refl _, hij', HS2, rfl⟩
          case round =>
            obtain ⟨j', rfl, hjj, hij2, HS3, hsd⟩ := hrel
            clear HS2
            by_cases hle2 : i' ≤ j'
            · cases hlv2 : lt dk[a]! dk[j']! with
              | true =>
                have hl := S.lessAt (d := dk) HS3.out.1 (x := (a : Int)) (y := (j' : Int)) a j' rfl rfl (by omega) (by omega) true hlv2
                go_wp2_with (go_at_fn gl; refine hl.mono ?_; rintro e w3 ⟨rfl, h3, k3⟩)
                go_roundw
                case rel => exact ⟨j' - 1, by go_num, by omega, by omega, ⟨h3, HS3.out.2.trans k3⟩, (scanDown_go (fun x => lt dk[a]! x) dk i' j' hle2 (by omega) hlv2).symm.trans hsd.out⟩
                case measure => simp [intOf]; omega
              | false =>
                have hl := S.lessAt (d := dk) HS3.out.1 (x := (a : Int)) (y := (j' : Int)) a j' rfl rfl (by omega) (by omega) false hlv2
                have hj2 : Hid (j' = scanDown (fun x => lt dk[a]! x) dk i' j) := (scanDown_end (fun x => lt dk[a]! x) dk i' j' (Or.inr hlv2)).symm.trans hsd.out
                have hlt3 := scans_lt lt a i j dk (by omega) hi2.out hj2.out hle2
                clear hsd
                go_wp2_with (first | (go_at_fn gl; refine hl.mono ?_; rintro e w3 ⟨rfl, h3, k3⟩) | (go_at_fn gs; refine (S.swapAt (d := dk) h3 i' j' rfl rfl (by omega) (by omega)).mono ?_; rintro e w4 ⟨rfl, h4, k4⟩))
                go_roundw
                case rel => exact ⟨i' + 1, j' - 1, swp dk i' j', by go_num, by go_num, by omega, by omega, by omega, ⟨h4, (HS3.out.2.trans k3).trans k4⟩, (show _ = _ from by rw [← AE.out]; exact (partEq_go lt a i j dk hi2.out hj2.out (by omega)).symm)⟩
                case measure => simp [intOf]; omega
            · have hj2 : Hid (j' = scanDown (fun x => lt dk[a]! x) dk i' j) := (scanDown_end (fun x => lt dk[a]! x) dk i' j' (Or.inl hle2)).symm.trans hsd.out
              go_wp2
              go_ret
              have e := partEq_break lt a i j dk hi2.out hj2.out (by omega)
              unfold partitionEqual
              rw [← AE.out, e]
              exact ⟨rfl, HS3.out⟩
      · have hi2 : Hid (i' = scanUp (fun x => !lt dk[a]! x) dk j i) := (scanUp_end (fun x => !lt dk[a]! x) dk j i' (Or.inl hle)).symm.trans hsc.out
        clear hsc
        go_wp2
        go_loopw [10] (fun vj w2 => ∃ (j' : Nat), vj = .int .i64 j' ∧ j' ≤ j ∧ i' ≤ j' + 1 ∧ Hid (St dk w2 ∧ Kept B W w2) ∧ Hid (scanDown (fun x => lt dk[a]! x) dk i' j' = scanDown (fun x => lt dk[a]! x) dk i' j))
          (fun vj _ => (intOf vj).toNat)
        case atStart => exact ⟨j, rfl, Nat.le_refl _, hij', HS1, rfl⟩
        case round =>
          obtain ⟨j', rfl, hjj, hij2, HS3, hsd⟩ := hrel
          by_cases hle2 : i' ≤ j'
          · exfalso; omega
          · have hj2 : Hid (j' = scanDown (fun x => lt dk[a]! x) dk i' j) := (scanDown_end (fun x => lt dk[a]! x) dk i' j' (Or.inl hle2)).symm.trans hsd.out
            go_wp2
            go_ret
            have e := partEq_break lt a i j dk hi2.out hj2.out (by omega)
            unfold partitionEqual
            rw [← AE.out, e]
            exact ⟨rfl, HS3.out⟩
set_option maxHeartbeats 8000000 in
set_option maxRecDepth 100000 in
theorem partition_any (L : LaysGt.n40 P ρ) (rL : Reaches P T rv "Less" gl) (rS : Reaches P T rv "Swap" gs) (S : Sorts P gl gs rv lt n B St) (a b pivot : Nat) (d : Array α) (W : World) (h : St d W) (hap : a ≤ pivot) (hpb : pivot < b) (hb : b ≤ n) (hsz : n < 4611686018427387904) :
    Calls P (ρ.f 40) #[.iface T rv, .int .i64 a, .int .i64 b, .int .i64 pivot] W (fun e w' => e = .returned (.tuple #[.int .i64 (Go.Sort.partition lt d a b pivot).1, .bool (Go.Sort.partition lt d a b pivot).2.1]) ∧ St (Go.Sort.partition lt d a b pivot).2.2 w' ∧ Kept B W w') := by
  have mixed := L.mixed
  have t0 := L.t0
  have a0 := L.a0
  have z0 := L.z0
  have v0 := L.v0
  have t3 := L.t3
  have a3 := L.a3
  have z3 := L.z3
  have v3 := L.v3
  have t4 := L.t4
  have a4 := L.a4
  have z4 := L.z4
  have v4 := L.v4
  have t26 := L.t26
  have a26 := L.a26
  have z26 := L.z26
  have v26 := L.v26
  have t38 := L.t38
  have a38 := L.a38
  have z38 := L.z38
  have v38 := L.v38
  have t43 := L.t43
  have a43 := L.a43
  have z43 := L.z43
  have v43 := L.v43
  have t45 := L.t45
  have a45 := L.a45
  have z45 := L.z45
  have v45 := L.v45
  have mL : ∀ w, Sem.run P (method (P.types.size + 100) T rv "Less") w = .ok (gl, rv) w := rL.finds
  have eL := rL.enters
  have mS : ∀ w, Sem.run P (method (P.types.size + 100) T rv "Swap") w = .ok (gs, rv) w := rS.finds
  have eS := rS.enters
  have H0 := Lib.hid h
  clear h
  obtain ⟨i, hi⟩ : ∃ i : Nat, i = a + 1 := ⟨_, rfl⟩
  obtain ⟨j, hj⟩ : ∃ j : Nat, j = b - 1 := ⟨_, rfl⟩
  obtain ⟨dk, hdk⟩ : ∃ dk : Array α, dk = swp d a pivot := ⟨_, rfl⟩
  have hai : a < i := by omega
  have hij : i ≤ j + 1 := by omega
  have hjb : j < b := by omega
  have Hi : Hid (i = a + 1) := hi
  have Hj : Hid (j = b - 1) := hj
  have Hdk : Hid (dk = swp d a pivot) := hdk
  clear hi hj hdk
  go_enter L.f40, BodyGt.n40_ntmps ρ
  go_wp2_with (go_at_fn gs; refine (S.swapAt (d := d) H0.out a pivot rfl rfl (by omega) (by omega)).mono ?_; rintro e w0 ⟨rfl, h0, k0⟩)
  rw [show ((a : Int) + 1) = (i : Int) by have := Hi.out; omega, show ((b : Int) - 1) = (j : Int) by have := Hj.out; omega]
  rw [← Hdk.out] at h0
  have HS := Lib.hid (And.intro h0 k0)
  clear h0 k0
  go_loopw [10] (fun vi w1 => ∃ (i' : Nat), vi = .int .i64 i' ∧ i ≤ i' ∧ i' ≤ j + 1 ∧ Hid (St dk w1 ∧ Kept B W w1) ∧ Hid (scanUp (fun x => lt x dk[a]!) dk j i' = scanUp (fun x => lt x dk[a]!) dk j i))
    (fun vi _ => j + 1 - (intOf vi).toNat)
  case atStart => exact ⟨i, rfl, Nat.le_refl _, hij, HS, rfl⟩
  case round =>
    obtain ⟨i', rfl, hii, hij', HS1, hsc⟩ := hrel
    clear HS
    by_cases hle : i' ≤ j
    · cases hlv : lt dk[i']! dk[a]! with
      | true =>
        have hl := S.lessAt (d := dk) HS1.out.1 (x := (i' : Int)) (y := (a : Int)) i' a rfl rfl (by omega) (by omega) true hlv
        go_wp2_with (go_at_fn gl; refine hl.mono ?_; rintro e w1 ⟨rfl, h1, k1⟩)
        go_roundw
        case rel => exact ⟨i' + 1, by go_num, by omega, by omega, ⟨h1, HS1.out.2.trans k1⟩, (scanUp_go (fun x => lt x dk[a]!) dk j i' hle hlv).symm.trans hsc.out⟩
        case measure => simp [intOf]; omega
      | false =>
        have hl := S.lessAt (d := dk) HS1.out.1 (x := (i' : Int)) (y := (a : Int)) i' a rfl rfl (by omega) (by omega) false hlv
        have hi2 : Hid (i' = scanUp (fun x => lt x dk[a]!) dk j i) := (scanUp_end (fun x => lt x dk[a]!) dk j i' (Or.inr hlv)).symm.trans hsc.out
        go_wp2_with (go_at_fn gl; refine hl.mono ?_; rintro e w1 ⟨rfl, h1, k1⟩)
        have HS2 := Lib.hid (And.intro h1 (HS1.out.2.trans k1))
        clear h1 k1 hsc HS1
        go_loopw [11] (fun vj w2 => ∃ (j' : Nat), vj = .int .i64 j' ∧ j' ≤ j ∧ i' ≤ j' + 1 ∧ Hid (St dk w2 ∧ Kept B W w2) ∧ Hid (scanDown (fun x => !lt x dk[a]!) dk i' j' = scanDown (fun x => !lt x dk[a]!) dk i' j))
          (fun vj _ => (intOf vj).toNat)
        case atStart => exact ⟨j, rfl, Nat.le_refl _, hij', HS2, rfl⟩
        case round =>
          obtain ⟨j', rfl, hjj, hij2, HS3, hsd⟩ := hrel
          clear HS2
          by_cases hle2 : i' ≤ j'
          · cases hlv2 : lt dk[j']! dk[a]! with
            | false =>
              have hl := S.lessAt (d := dk) HS3.out.1 (x := (j' : Int)) (y := (a : Int)) j' a rfl rfl (by omega) (by omega) false hlv2
              go_wp2_with (go_at_fn gl; refine hl.mono ?_; rintro e w3 ⟨rfl, h3, k3⟩)
              go_roundw
              case rel => exact ⟨j' - 1, by go_num, by omega, by omega, ⟨h3, HS3.out.2.trans k3⟩, (scanDown_go (fun x => !lt x dk[a]!) dk i' j' hle2 (by omega) (by simp [hlv2])).symm.trans hsd.out⟩
              case measure => simp [intOf]; omega
            | true =>
              have hl := S.lessAt (d := dk) HS3.out.1 (x := (j' : Int)) (y := (a : Int)) j' a rfl rfl (by omega) (by omega) true hlv2
              have hj2 : Hid (j' = scanDown (fun x => !lt x dk[a]!) dk i' j) := (scanDown_end (fun x => !lt x dk[a]!) dk i' j' (Or.inr (by simp [hlv2]))).symm.trans hsd.out
              have hlt3 := part_scans_lt lt a i j dk (by omega) hi2.out hj2.out hle2
              clear hsd
              go_wp2_with (first | (go_at_fn gl; refine hl.mono ?_; rintro e w3 ⟨rfl, h3, k3⟩) | (go_at_fn gs; refine (S.swapAt (d := dk) h3 i' j' rfl rfl (by omega) (by omega)).mono ?_; rintro e w4 ⟨rfl, h4, k4⟩))
              (try rw [decide_eq_false (show ¬ j' < i' by omega)])
              obtain ⟨I0, hI0⟩ : ∃ I0 : Nat, I0 = i' + 1 := ⟨_, rfl⟩
              obtain ⟨J0, hJ0⟩ : ∃ J0 : Nat, J0 = j' - 1 := ⟨_, rfl⟩
              obtain ⟨D0, hD0⟩ : ∃ D0 : Array α, D0 = swp dk i' j' := ⟨_, rfl⟩
              have PF : Hid (Go.Sort.partition lt d a b pivot = ((partLoop lt a I0 J0 D0).1, false, swp (partLoop lt a I0 J0 D0).2 (partLoop lt a I0 J0 D0).1 a)) := by
                rw [hI0, hJ0, hD0]; exact part_first_go lt d a b pivot Hi.out Hj.out Hdk.out hi2.out hj2.out (by omega)
              rw [← hD0] at h4
              have HS4 := Lib.hid (And.intro h4 ((HS3.out.2.trans k3).trans k4))
              clear h3 h4 k3 k4
              go_loopw [10, 11] (fun vi vj wr => ∃ (i j : Nat) (dk : Array α), vi = .int .i64 i ∧ vj = .int .i64 j ∧ a < i ∧ i ≤ j + 1 ∧ j < b ∧ Hid (St dk wr ∧ Kept B W wr) ∧ Hid (partLoop lt a i j dk = partLoop lt a I0 J0 D0))
                (fun vi vj _ => (intOf vj).toNat + 1 - (intOf vi).toNat)
              case atStart => exact ⟨i' + 1, j' - 1, D0, by go_num, by go_num, by omega, by omega, by omega, HS4, (show _ = _ from by rw [hI0, hJ0])⟩
              case round =>
                clear hI0 hJ0 hD0 hj2 hi2 hlt3 hl Hi Hj Hdk HS3 HS4
                obtain ⟨i, j, dk, rfl, rfl, hai, hij, hjb, HS, AE⟩ := hrel
                go_wp2
                go_loopw [10] (fun vi w1 => ∃ (i' : Nat), vi = .int .i64 i' ∧ i ≤ i' ∧ i' ≤ j + 1 ∧ Hid (St dk w1 ∧ Kept B W w1) ∧ Hid (scanUp (fun x => lt x dk[a]!) dk j i' = scanUp (fun x => lt x dk[a]!) dk j i))
                  (fun vi _ => j + 1 - (intOf vi).toNat)
                case atStart => exact ⟨i, rfl, Nat.le_refl _, hij, HS, rfl⟩
                case round =>
                  obtain ⟨i', rfl, hii, hij', HS1, hsc⟩ := hrel
                  clear HS
                  by_cases hle : i' ≤ j
                  · cases hlv : lt dk[i']! dk[a]! with
                    | true =>
                      have hl := S.lessAt (d := dk) HS1.out.1 (x := (i' : Int)) (y := (a : Int)) i' a rfl rfl (by omega) (by omega) true hlv
                      go_wp2_with (go_at_fn gl; refine hl.mono ?_; rintro e w1 ⟨rfl, h1, k1⟩)
                      go_roundw
                      case rel => exact ⟨i' + 1, by go_num, by omega, by omega, ⟨h1, HS1.out.2.trans k1⟩, (scanUp_go (fun x => lt x dk[a]!) dk j i' hle hlv).symm.trans hsc.out⟩
                      case measure => simp [intOf]; omega
                    | false =>
                      have hl := S.lessAt (d := dk) HS1.out.1 (x := (i' : Int)) (y := (a : Int)) i' a rfl rfl (by omega) (by omega) false hlv
                      have hi2 : Hid (i' = scanUp (fun x => lt x dk[a]!) dk j i) := (scanUp_end (fun x => lt x dk[a]!) dk j i' (Or.inr hlv)).symm.trans hsc.out
                      go_wp2_with (go_at_fn gl; refine hl.mono ?_; rintro e w1 ⟨rfl, h1, k1⟩)
                      have HS2 := Lib.hid (And.intro h1 (HS1.out.2.trans k1))
                      clear h1 k1 hsc HS1
                      go_loopw [11] (fun vj w2 => ∃ (j' : Nat), vj = .int .i64 j' ∧ j' ≤ j ∧ i' ≤ j' + 1 ∧ Hid (St dk w2 ∧ Kept B W w2) ∧ Hid (scanDown (fun x => !lt x dk[a]!) dk i' j' = scanDown (fun x => !lt x dk[a]!) dk i' j))
                        (fun vj _ => (intOf vj).toNat)
                      case atStart => exact ⟨j, rfl, Nat.le_refl _, hij', HS2, rfl⟩
                      case round =>
                        obtain ⟨j', rfl, hjj, hij2, HS3, hsd⟩ := hrel
                        clear HS2
                        by_cases hle2 : i' ≤ j'
                        · cases hlv2 : lt dk[j']! dk[a]! with
                          | false =>
                            have hl := S.lessAt (d := dk) HS3.out.1 (x := (j' : Int)) (y := (a : Int)) j' a rfl rfl (by omega) (by omega) false hlv2
                            go_wp2_with (go_at_fn gl; refine hl.mono ?_; rintro e w3 ⟨rfl, h3, k3⟩)
                            go_roundw
                            case rel => exact ⟨j' - 1, by go_num, by omega, by omega, ⟨h3, HS3.out.2.trans k3⟩, (scanDown_go (fun x => !lt x dk[a]!) dk i' j' hle2 (by omega) (by simp [hlv2])).symm.trans hsd.out⟩
                            case measure => simp [intOf]; omega
                          | true =>
                            have hl := S.lessAt (d := dk) HS3.out.1 (x := (j' : Int)) (y := (a : Int)) j' a rfl rfl (by omega) (by omega) true hlv2
                            have hj2 : Hid (j' = scanDown (fun x => !lt x dk[a]!) dk i' j) := (scanDown_end (fun x => !lt x dk[a]!) dk i' j' (Or.inr (by simp [hlv2]))).symm.trans hsd.out
                            have hlt3 := part_scans_lt lt a i j dk (by omega) hi2.out hj2.out hle2
                            clear hsd
                            go_wp2_with (first | (go_at_fn gl; refine hl.mono ?_; rintro e w3 ⟨rfl, h3, k3⟩) | (go_at_fn gs; refine (S.swapAt (d := dk) h3 i' j' rfl rfl (by omega) (by omega)).mono ?_; rintro e w4 ⟨rfl, h4, k4⟩))
                            go_roundw
                            case rel => exact ⟨i' + 1, j' - 1, swp dk i' j', by go_num, by go_num, by omega, by omega, by omega, ⟨h4, (HS3.out.2.trans k3).trans k4⟩, (show _ = _ from by rw [← AE.out]; exact (part_go lt a i j dk hi2.out hj2.out (by omega)).symm)⟩
                            case measure => simp [intOf]; omega
                        · have hj2 : Hid (j' = scanDown (fun x => !lt x dk[a]!) dk i' j) := (scanDown_end (fun x => !lt x dk[a]!) dk i' j' (Or.inl hle2)).symm.trans hsd.out
                          go_wp2_with (go_at_fn gs; refine (S.swapAt (d := dk) HS3.out.1 j' a rfl rfl (by omega) (by omega)).mono ?_; rintro e w5 ⟨rfl, h5, k5⟩)
                          go_ret2
                          have e := part_break lt a i j dk hi2.out hj2.out (by omega)
                          rw [PF.out, ← AE.out, e]
                          exact ⟨rfl, h5, HS3.out.2.trans k5⟩
                  · have hi2 : Hid (i' = scanUp (fun x => lt x dk[a]!) dk j i) := (scanUp_end (fun x => lt x dk[a]!) dk j i' (Or.inl hle)).symm.trans hsc.out
                    clear hsc
                    go_wp2
                    go_loopw [11] (fun vj w2 => ∃ (j' : Nat), vj = .int .i64 j' ∧ j' ≤ j ∧ i' ≤ j' + 1 ∧ Hid (St dk w2 ∧ Kept B W w2) ∧ Hid (scanDown (fun x => !lt x dk[a]!) dk i' j' = scanDown (fun x => !lt x dk[a]!) dk i' j))
                      (fun vj _ => (intOf vj).toNat)
                    case atStart => exact ⟨j, rfl, Nat.le_refl _, hij', HS1, rfl⟩
                    case round =>
                      obtain ⟨j', rfl, hjj, hij2, HS3, hsd⟩ := hrel
                      clear HS1
                      by_cases hle2 : i' ≤ j'
                      · exfalso; omega
                      · have hj2 : Hid (j' = scanDown (fun x => !lt x dk[a]!) dk i' j) := (scanDown_end (fun x => !lt x dk[a]!) dk i' j' (Or.inl hle2)).symm.trans hsd.out
                        go_wp2_with (go_at_fn gs; refine (S.swapAt (d := dk) HS3.out.1 j' a rfl rfl (by omega) (by omega)).mono ?_; rintro e w5 ⟨rfl, h5, k5⟩)
                        go_ret2
                        have e := part_break lt a i j dk hi2.out hj2.out (by omega)
                        rw [PF.out, ← AE.out, e]
                        exact ⟨rfl, h5, HS3.out.2.trans k5⟩
          · have hj2 : Hid (j' = scanDown (fun x => !lt x dk[a]!) dk i' j) := (scanDown_end (fun x => !lt x dk[a]!) dk i' j' (Or.inl hle2)).symm.trans hsd.out
            go_wp2_with (go_at_fn gs; refine (S.swapAt (d := dk) HS3.out.1 j' a rfl rfl (by omega) (by omega)).mono ?_; rintro e w5 ⟨rfl, h5, k5⟩)
            go_ret2
            have e := part_first_break lt d a b pivot Hi.out Hj.out Hdk.out hi2.out hj2.out (by omega)
            rw [e]
            exact ⟨rfl, h5, HS3.out.2.trans k5⟩
    · have hi2 : Hid (i' = scanUp (fun x => lt x dk[a]!) dk j i) := (scanUp_end (fun x => lt x dk[a]!) dk j i' (Or.inl hle)).symm.trans hsc.out
      clear hsc
      go_wp2
      go_loopw [11] (fun vj w2 => ∃ (j' : Nat), vj = .int .i64 j' ∧ j' ≤ j ∧ i' ≤ j' + 1 ∧ Hid (St dk w2 ∧ Kept B W w2) ∧ Hid (scanDown (fun x => !lt x dk[a]!) dk i' j' = scanDown (fun x => !lt x dk[a]!) dk i' j))
        (fun vj _ => (intOf vj).toNat)
      case atStart => exact ⟨j, rfl, Nat.le_refl _, hij', HS1, rfl⟩
      case round =>
        obtain ⟨j', rfl, hjj, hij2, HS3, hsd⟩ := hrel
        clear HS1
        by_cases hle2 : i' ≤ j'
        · exfalso; omega
        · have hj2 : Hid (j' = scanDown (fun x => !lt x dk[a]!) dk i' j) := (scanDown_end (fun x => !lt x dk[a]!) dk i' j' (Or.inl hle2)).symm.trans hsd.out
          go_wp2_with (go_at_fn gs; refine (S.swapAt (d := dk) HS3.out.1 j' a rfl rfl (by omega) (by omega)).mono ?_; rintro e w5 ⟨rfl, h5, k5⟩)
          go_ret2
          have e := part_first_break lt d a b pivot Hi.out Hj.out Hdk.out hi2.out hj2.out (by omega)
          rw [e]
          exact ⟨rfl, h5, HS3.out.2.trans k5⟩
end Go.Proofs.YtokehapgddicjaaGreatFmt
