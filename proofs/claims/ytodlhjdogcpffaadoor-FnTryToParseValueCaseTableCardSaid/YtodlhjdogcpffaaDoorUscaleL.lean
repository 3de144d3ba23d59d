/- uscale over a power of ten with a low word. -/
import Derived.Test.YtodlhjdogcpffaaDoorFmtScale
namespace Go.Proofs.YtodlhjdogcpffaaDoor
open Go.RowKit

/-- What uscale answers, H and M the words of x*h, m2 the high word of x*l. -/
def uscB (H M m2 G : Nat) : Nat := if H % G ≠ 0 then stick (H / G) true else stick ((H - (if M < m2 then 1 else 0)) / G) (decide (1 < (M + 18446744073709551616 - m2) % 18446744073709551616))

set_option maxRecDepth 100000 in
set_option maxHeartbeats 2000000 in
theorem uscale_low (x h l s B : Nat) (w : World) (hx : x < 18446744073709551616) (hh : h < 18446744073709551616) (hl : l < 18446744073709551616) (hs : s < 64) (hH0 : 18446744073709551616 ≤ x * h)
    (c0 : w.cell? ⟨B, 0, none⟩ = some (.int .u64 h)) (c1 : w.cell? ⟨B, 1, none⟩ = some (.int .u64 (l : Nat))) (c2 : w.cell? ⟨B, 2, none⟩ = some (.int .i64 s)) :
    Calls Tryd.prog 67 #[.int .u64 x, .pointer (some ⟨B, 0, none⟩)] w fun e w' => e = .returned (.int .u64 (uscB (x * h / 18446744073709551616) (x * h % 18446744073709551616) (x * l / 18446744073709551616) (2 ^ s) : Nat)) ∧ Below w.heap.size w w' := by
  have HM := Lib.hid (fun wx => Tryd.bits_Mul64 x h hx hh wx)
  have HM2 := Lib.hid (fun wx => Tryd.bits_Mul64 x l hx hl wx)
  have hand : bits .and .i64 (s : Int) 63 = s := and63 ⟨s, hs⟩
  have hHl : x * h / 18446744073709551616 < 18446744073709551616 := by
    apply (Nat.div_lt_iff_lt_mul (by omega)).2
    exact Nat.lt_of_le_of_lt (Nat.mul_le_mul_left _ (Nat.le_of_lt hh)) (Nat.mul_lt_mul_of_pos_right hx (by omega))
  have hHp : 1 ≤ x * h / 18446744073709551616 := (Nat.le_div_iff_mul_le (by omega)).2 (by omega)
  have hMl : x * h % 18446744073709551616 < 18446744073709551616 := Nat.mod_lt _ (by omega)
  have hml2 : x * l / 18446744073709551616 < 18446744073709551616 := by
    apply (Nat.div_lt_iff_lt_mul (by omega)).2
    exact Nat.lt_of_le_of_lt (Nat.mul_le_mul_left _ (Nat.le_of_lt hl)) (Nat.mul_lt_mul_of_pos_right hx (by omega))
  clear hH0
  generalize x * h / 18446744073709551616 = H at *
  generalize x * h % 18446744073709551616 = M at *
  generalize x * l / 18446744073709551616 = m2 at *
  generalize x * l % 18446744073709551616 = m3 at *
  obtain ⟨G, hG⟩ : ∃ G, 2 ^ s = G := ⟨_, rfl⟩
  have hG0 : 0 < G := by rw [← hG]; exact Nat.two_pow_pos _
  have hGI : (2 : Int) ^ s = (G : Int) := by rw [← hG]; simp
  rw [hG]
  have hml : G * (H / G) ≤ H := Nat.mul_div_le H G
  have hdm := Nat.div_add_mod H G
  have hq : (H : Int) / (G : Int) = ((H / G : Nat) : Int) := by simp
  have hwr : IntKind.u64.wrap (((H / G : Nat) : Int) * (G : Int)) = ((H / G * G : Nat) : Int) := by
    rw [IntKind.wrap_u64]
    have : (((H / G : Nat) : Int) * (G : Int)) = ((H / G * G : Nat) : Int) := by simp
    rw [this, Nat.mul_comm]
    omega
  have hne : ((((H / G * G : Nat) : Int)) != (H : Int)) = (H % G != 0) := by
    rw [Bool.eq_iff_iff, bne_iff_ne, bne_iff_ne, Nat.mul_comm]; omega
  have hne2 : (IntKind.u64.wrap ((H : Int) / (G : Int) * (G : Int)) != (H : Int)) = (H % G != 0) := by rw [hq, hwr, hne]
  unfold uscB
  by_cases hb : H % G = 0
  · rw [if_neg (by omega)]
    have hbf : (H % G != 0) = false := by rw [hb]; rfl
    rw [hbf, ← hGI] at hne2
    obtain ⟨c, hc⟩ : ∃ c : Bool, decide (M < m2) = c := ⟨_, rfl⟩
    have hcI : decide ((M : Int) < (m2 : Int)) = c := by rw [← hc]; simp
    have hH2 : H - (if M < m2 then 1 else 0) = H - c.toNat := by
      by_cases h : M < m2
      · rw [if_pos h]; rw [decide_eq_true h] at hc; subst hc; rfl
      · rw [if_neg h]; rw [decide_eq_false h] at hc; subst hc; rfl
    rw [hH2]
    have hcl := Bool.toNat_le c
    have hsub : IntKind.u64.wrap ((H : Int) - (c.toNat : Int)) = ((H - c.toNat : Nat) : Int) := by rw [IntKind.wrap_u64]; omega
    have hsub2 : IntKind.u64.wrap ((M : Int) - (m2 : Int)) = (((M + 18446744073709551616 - m2) % 18446744073709551616 : Nat) : Int) := by rw [IntKind.wrap_u64]; omega
    have hd1 : decide ((1 : Int) < (((M + 18446744073709551616 - m2) % 18446744073709551616 : Nat) : Int)) = decide (1 < (M + 18446744073709551616 - m2) % 18446744073709551616) := by
      rw [decide_eq_decide]; omega
    generalize hD : decide (1 < (M + 18446744073709551616 - m2) % 18446744073709551616) = D at *
    generalize (M + 18446744073709551616 - m2) % 18446744073709551616 = Y at *
    have hor := or_stick ((H - c.toNat) / G) D (Nat.lt_of_le_of_lt (Nat.div_le_self _ _) (by omega))
    have hq2 : ((H - c.toNat : Nat) : Int) / (G : Int) = (((H - c.toNat) / G : Nat) : Int) := by simp
    rw [← hq2, ← hGI] at hor
    generalize ((stick ((H - c.toNat) / G) D : Nat) : Int) = R at *
    generalize ((H - c.toNat : Nat) : Int) = Hm at *
    clear hml hdm hq hwr hne hGI hG hq2 hH2 hcI hD
    go_enter Tryd.func67, Tryd.ntmps67
    go_wp2_with fail
    refine (HM.out _).mono ?_
    rintro e w' ⟨rfl, rfl⟩
    go_wp2_with (first | (go_at_call 98; refine (HM2.out _).mono ?_; rintro e w' ⟨rfl, rfl⟩) | (go_at_call 91; refine (bool2_any _ _).mono ?_; rintro e w' ⟨rfl, rfl⟩))
    go_quiet (first | (go_at_call 91; exact Calls.quiet_of_same ((bool2_any _ _).mono fun _ _ h => ⟨h.1, h.2.symm⟩)) | fail)
    go_wp2
    go_ret
    exact ⟨rfl, drewN_below _ _⟩
  · rw [if_pos hb]
    have hbf : (H % G != 0) = true := by rw [bne_iff_ne]; exact hb
    rw [hbf, ← hGI] at hne2
    have hor1 := or_stick (H / G) true (Nat.lt_of_le_of_lt (Nat.div_le_self _ _) hHl)
    have e1 : ((true.toNat : Nat) : Int) = 1 := rfl
    rw [e1, ← hq, ← hGI] at hor1
    generalize ((stick (H / G) true : Nat) : Int) = R at *
    clear hml hdm hq hwr hne hGI hG
    go_enter Tryd.func67, Tryd.ntmps67
    go_wp2_with fail
    refine (HM.out _).mono ?_
    rintro e w' ⟨rfl, rfl⟩
    go_wp2
    go_ret
    exact ⟨rfl, Below.refl _ _⟩
end Go.Proofs.YtodlhjdogcpffaaDoor
