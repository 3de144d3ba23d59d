/- uscale: a scaled number with a sticky last digit. -/
import Derived.Test.YtodlhjdogcpffaaDoorFmtSmall
import Derived.Test.YtodlhjdogcpffaaDoorShelf
namespace Go.Proofs.YtodlhjdogcpffaaDoor
open Go.RowKit

theorem and63 : ∀ s : Fin 64, bits .and .i64 (s.val : Int) 63 = s.val := by decide +kernel

theorem scaled_split (P s : Nat) : scaled P (2 ^ (64 + s)) = stick (P / 18446744073709551616 / 2 ^ s) ((P / 18446744073709551616 % 2 ^ s != 0) || (P % 18446744073709551616 != 0)) := by
  have e : 2 ^ (64 + s) = 18446744073709551616 * 2 ^ s := by rw [Nat.pow_add]
  unfold scaled
  rw [e, ← Nat.div_div_eq_div_mul, Nat.mod_mul]
  congr 1
  rw [Bool.eq_iff_iff, Bool.or_eq_true, bne_iff_ne, bne_iff_ne, bne_iff_ne]
  omega

set_option maxRecDepth 100000 in
set_option maxHeartbeats 1000000 in
theorem uscale_any (x h s B : Nat) (w : World) (hx : x < 18446744073709551616) (hh : h < 18446744073709551616) (hs : s < 64) (h1 : x * h % 18446744073709551616 ≠ 1)
    (c0 : w.cell? ⟨B, 0, none⟩ = some (.int .u64 h)) (c1 : w.cell? ⟨B, 1, none⟩ = some (.int .u64 (0 : Nat))) (c2 : w.cell? ⟨B, 2, none⟩ = some (.int .i64 s)) :
    Calls Tryd.prog 67 #[.int .u64 x, .pointer (some ⟨B, 0, none⟩)] w fun e w' => e = .returned (.int .u64 (scaled (x * h) (2 ^ (64 + s)) : Nat)) ∧ Below w.heap.size w w' := by
  have HM := Lib.hid (fun wx => Tryd.bits_Mul64 x h hx hh wx)
  have HM2 := Lib.hid (fun wx => Tryd.bits_Mul64 x 0 hx (by omega) wx)
  have hand : bits .and .i64 (s : Int) 63 = s := and63 ⟨s, hs⟩
  have hz1 : x * 0 / 18446744073709551616 = 0 := by simp
  have hz2 : x * 0 % 18446744073709551616 = 0 := by simp
  rw [hz1, hz2] at HM2
  rw [scaled_split]
  have hHl : x * h / 18446744073709551616 < 18446744073709551616 := by
    apply (Nat.div_lt_iff_lt_mul (by omega)).2
    exact Nat.lt_of_le_of_lt (Nat.mul_le_mul_left _ (Nat.le_of_lt hh)) (Nat.mul_lt_mul_of_pos_right hx (by omega))
  have hMl : x * h % 18446744073709551616 < 18446744073709551616 := Nat.mod_lt _ (by omega)
  generalize x * h / 18446744073709551616 = H at *
  generalize x * h % 18446744073709551616 = M at *
  obtain ⟨G, hG⟩ : ∃ G, 2 ^ s = G := ⟨_, rfl⟩
  have hG0 : 0 < G := by rw [← hG]; exact Nat.two_pow_pos _
  have hGI : (2 : Int) ^ s = (G : Int) := by rw [← hG]; simp
  rw [hG]
  have hdm := Nat.div_add_mod H G
  have hml : G * (H / G) ≤ H := Nat.mul_div_le H G
  have hq : (H : Int) / (G : Int) = ((H / G : Nat) : Int) := by simp
  have hwr : IntKind.u64.wrap (((H / G : Nat) : Int) * (G : Int)) = ((H / G * G : Nat) : Int) := by
    rw [IntKind.wrap_u64]
    have : (((H / G : Nat) : Int) * (G : Int)) = ((H / G * G : Nat) : Int) := by simp
    rw [this, Nat.mul_comm]
    omega
  have hor1 := or_stick (H / G) true (Nat.lt_of_le_of_lt (Nat.div_le_self _ _) hHl)
  have horM := fun b => or_stick (H / G) b (Nat.lt_of_le_of_lt (Nat.div_le_self _ _) hHl)
  have hne : ((((H / G * G : Nat) : Int)) != (H : Int)) = (H % G != 0) := by
    rw [Bool.eq_iff_iff, bne_iff_ne, bne_iff_ne, Nat.mul_comm]; omega
  have hM0 : (M != 0) = decide ((1 : Int) < (M : Int)) := by
    rw [Bool.eq_iff_iff, bne_iff_ne, decide_eq_true_eq]; omega
  have hsub : IntKind.u64.wrap ((M : Int) - 0) = M := by rw [IntKind.wrap_u64]; omega
  rw [hM0]
  rw [← hq] at horM hor1
  have hne2 : (IntKind.u64.wrap ((H : Int) / (G : Int) * (G : Int)) != (H : Int)) = (H % G != 0) := by rw [hq, hwr, hne]
  generalize (H % G != 0) = b at hne2 ⊢
  rw [← hGI] at hne2
  simp only [← hGI] at horM hor1
  have e1 : ((true.toNat : Nat) : Int) = 1 := rfl
  rw [e1] at hor1
  clear hGI hG
  have hlt0 : ¬ (M : Int) < 0 := by omega
  have hHw : IntKind.u64.wrap ((H : Int) - 0) = H := by rw [IntKind.wrap_u64]; omega
  have et : (true || decide ((1 : Int) < (M : Int))) = true := rfl
  have ef : (false || decide ((1 : Int) < (M : Int))) = decide ((1 : Int) < (M : Int)) := Bool.false_or _
  have hd0 : decide ((M : Int) < 0) = false := by simp
  have hH1 : IntKind.u64.wrap (H : Int) = H := by rw [IntKind.wrap_u64]; omega
  clear hdm hml hwr hne hM0 hq
  cases b
  · rw [ef]
    have hbM := horM (decide ((1 : Int) < (M : Int)))
    go_enter Tryd.func67, Tryd.ntmps67
    go_wp2_with fail
    refine (HM.out _).mono ?_
    rintro e w' ⟨rfl, rfl⟩
    go_wp2_with (first | (go_at_call 98; refine (HM2.out _).mono ?_; rintro e w' ⟨rfl, rfl⟩) | (go_at_call 91; refine (bool2_any _ _).mono ?_; rintro e w' ⟨rfl, rfl⟩))
    go_quiet (first | (go_at_call 91; exact Calls.quiet_of_same ((bool2_any _ _).mono fun _ _ h => ⟨h.1, h.2.symm⟩)) | fail)
    go_wp2
    go_ret
    exact ⟨rfl, drewN_below _ _⟩
  · rw [et]
    go_enter Tryd.func67, Tryd.ntmps67
    go_wp2_with fail
    refine (HM.out _).mono ?_
    rintro e w' ⟨rfl, rfl⟩
    go_wp2
    go_ret
    exact ⟨rfl, Below.refl _ _⟩
end Go.Proofs.YtodlhjdogcpffaaDoor
