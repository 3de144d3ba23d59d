/- The word of m/10^k, its fields, and what fixedWidthFloat makes of them: plain numbers, no program in sight. -/
import Derived.Test.YtodlhjdogcpffaaDoorHalf
namespace Go.Proofs.YtodlhjdogcpffaaDoor
open Go.RowKit

/-- The word of m/10^k: 53 digits K at place -s, not further than one from m/10^k * 2^s. -/
theorem fdec_word (neg : Bool) (m k : Nat) (h0 : 0 < m) (hm : m < 4503599627370496) (hk : 0 < k) (hk2 : k ≤ 15) :
    ∃ Y K s, fdec neg m k = Ieee.double.word neg (Y * 4503599627370496 + K) ∧ 4503599627370496 ≤ K ∧ K ≤ 9007199254740992 ∧ s + Y = 1074 ∧ 1 ≤ s ∧ 900 ≤ Y ∧ K * 10 ^ k ≤ m * 2 ^ s + 10 ^ k ∧ m * 2 ^ s ≤ K * 10 ^ k + 10 ^ k := by
  have hn0 : 0 < 10 ^ k := Nat.pow_pos (by omega)
  have hn10 : 10 ≤ 10 ^ k := by
    have : 10 ^ 1 ≤ 10 ^ k := Nat.pow_le_pow_right (by omega) hk
    omega
  have hn := pow10_lt k hk2
  have hq := fdec_quo neg m k h0 hm hk hk2
  generalize fdec neg m k = r at hq ⊢
  generalize 10 ^ k = n at *
  have e0 : floatBits .quo .f64 (fint neg m) (fint false n) = Ieee.double.div (Ieee.double.nearest neg m 0) (Ieee.double.nearest false n 0) := rfl
  rw [e0] at hq
  unfold Ieee.Format.div at hq
  have l1 := Fl.log2_le m h0 (by omega)
  have l1b : m.log2 < 52 := (Nat.log2_lt (by omega)).2 hm
  have l2 := Fl.log2_le n hn0 hn
  have l2b : 3 ≤ n.log2 := (Nat.le_log2 (by omega)).2 (by omega)
  rw [Fl.read_int neg m h0 (by omega), Fl.read_int false n hn0 hn] at hq
  have g1 : (m * 2 ^ (52 - m.log2)).log2 = 52 := by rw [Fl.log2_mul_pow m _ h0]; omega
  have g2 : (n * 2 ^ (52 - n.log2)).log2 = 52 := by rw [Fl.log2_mul_pow n _ hn0]; omega
  have hN : 0 < n * 2 ^ (52 - n.log2) := Nat.mul_pos hn0 (Nat.two_pow_pos _)
  have efb : Ieee.double.fractionBits = 52 := rfl
  simp only [Ieee.Datum.quotient, g1, g2, efb] at hq
  rw [if_neg (by omega)] at hq
  simp only [Option.map_some, Ieee.Format.write, Bool.xor_false, Nat.shiftLeft_eq, Option.some.injEq] at hq
  have sm := Fl.sig_bounds m h0 (by omega)
  have sn := Fl.sig_bounds n hn0 hn
  have hdv : m * 2 ^ (52 - m.log2) * 2 ^ (52 + 2 + 52 - 52) = m * 2 ^ (106 - m.log2) := by
    rw [Nat.mul_assoc, ← Nat.pow_add]; congr 2; omega
  rw [hdv] at hq
  -- the whole quotient
  have hQ1 := Nat.div_mul_le_self (m * 2 ^ (106 - m.log2)) (n * 2 ^ (52 - n.log2))
  have hQ2 := Nat.lt_mul_div_succ (m * 2 ^ (106 - m.log2)) hN
  generalize hQ : m * 2 ^ (106 - m.log2) / (n * 2 ^ (52 - n.log2)) = Q at hq hQ1 hQ2
  have hst : (m * 2 ^ (106 - m.log2) % (n * 2 ^ (52 - n.log2)) != 0).toNat ≤ 1 := Bool.toNat_le _
  generalize (m * 2 ^ (106 - m.log2) % (n * 2 ^ (52 - n.log2)) != 0).toNat = st at hq hst
  have hB1 : 2 ^ 53 ≤ Q := by
    rw [← hQ]
    apply (Nat.le_div_iff_mul_le hN).2
    have e : m * 2 ^ (106 - m.log2) = m * 2 ^ (52 - m.log2) * 2 ^ 54 := by rw [Nat.mul_assoc, ← Nat.pow_add]; congr 2; omega
    rw [e]
    have a1 : 2 ^ 53 * (n * 2 ^ (52 - n.log2)) ≤ 2 ^ 53 * 2 ^ 53 := Nat.mul_le_mul_left _ (Nat.le_of_lt sn.2)
    have a2 : 2 ^ 52 * 2 ^ 54 ≤ m * 2 ^ (52 - m.log2) * 2 ^ 54 := Nat.mul_le_mul_right _ sm.1
    exact Nat.le_trans a1 (Nat.le_trans (by decide) a2)
  have hB2 : Q < 2 ^ 55 := by
    rw [← hQ]
    apply (Nat.div_lt_iff_lt_mul hN).2
    have e : m * 2 ^ (106 - m.log2) = m * 2 ^ (52 - m.log2) * 2 ^ 54 := by rw [Nat.mul_assoc, ← Nat.pow_add]; congr 2; omega
    rw [e]
    have a1 : 2 ^ 55 * 2 ^ 52 ≤ 2 ^ 55 * (n * 2 ^ (52 - n.log2)) := Nat.mul_le_mul_left _ sn.1
    have a2 : m * 2 ^ (52 - m.log2) * 2 ^ 54 < 2 ^ 53 * 2 ^ 54 := Nat.mul_lt_mul_of_pos_right sm.2 (by decide)
    exact Nat.lt_of_lt_of_le a2 (Nat.le_trans (by decide) a1)
  have hZ0 : 2 * Q + st ≠ 0 := by omega
  have L1 : 54 ≤ (2 * Q + st).log2 := (Nat.le_log2 hZ0).2 (by omega)
  have L2 : (2 * Q + st).log2 < 57 := (Nat.log2_lt hZ0).2 (by omega)
  obtain ⟨K, hK, hK1, hK2⟩ := nearest_big neg (2 * Q + st) ((m.log2 : Int) - 52 - ((n.log2 : Int) - 52) - ((52 + 2 + 52 - 52 : Nat) : Int) - 1) (by omega) (by omega) (by omega) (by omega)
  rw [hK] at hq
  have hlo : 2 ^ (2 * Q + st).log2 ≤ 2 * Q + st := Nat.log2_self_le hZ0
  have hhi : 2 * Q + st < 2 ^ ((2 * Q + st).log2 + 1) := Nat.lt_log2_self
  generalize (2 * Q + st).log2 = L at *
  have hD : (2 * Q + st) / 2 ^ (L - 52) = Q / 2 ^ (L - 53) := by
    have : 2 ^ (L - 52) = 2 * 2 ^ (L - 53) := by have := psplit 1 (L - 53) (L - 52) (by omega); omega
    rw [this, ← Nat.div_div_eq_div_mul]; congr 1; omega
  have s1 : 2 ^ L = 4503599627370496 * 2 ^ (L - 52) := psplit 52 (L - 52) L (by omega)
  have s2 : 2 ^ (L + 1) = 9007199254740992 * 2 ^ (L - 52) := psplit 53 (L - 52) (L + 1) (by omega)
  rw [s1] at hlo
  rw [s2] at hhi
  have d1 : 4503599627370496 ≤ (2 * Q + st) / 2 ^ (L - 52) := (Nat.le_div_iff_mul_le (Nat.two_pow_pos _)).2 hlo
  have d2 : (2 * Q + st) / 2 ^ (L - 52) < 9007199254740992 := (Nat.div_lt_iff_lt_mul (Nat.two_pow_pos _)).2 hhi
  rw [hD] at hK1 hK2 d1 d2
  have f1 := Nat.div_mul_le_self Q (2 ^ (L - 53))
  have f2 := Nat.lt_mul_div_succ Q (Nat.two_pow_pos (L - 53))
  generalize Q / 2 ^ (L - 53) = D at *
  -- D * n ≤ m * 2^s < (D + 1) * n
  have hc : ∀ x, x * n * 2 ^ (L - 1 - n.log2) = x * 2 ^ (L - 53) * (n * 2 ^ (52 - n.log2)) := fun x => by
    have : 2 ^ (L - 1 - n.log2) = 2 ^ (L - 53) * 2 ^ (52 - n.log2) := psplit _ _ _ (by omega)
    rw [this]; ac_rfl
  have hms : m * 2 ^ (107 + n.log2 - m.log2 - L) * 2 ^ (L - 1 - n.log2) = m * 2 ^ (106 - m.log2) := by
    rw [Nat.mul_assoc, ← Nat.pow_add]; congr 2; omega
  have r1 : D * n ≤ m * 2 ^ (107 + n.log2 - m.log2 - L) := by
    apply Nat.le_of_mul_le_mul_right (c := 2 ^ (L - 1 - n.log2)) _ (Nat.two_pow_pos _)
    rw [hms, hc]
    exact Nat.le_trans (Nat.mul_le_mul_right _ f1) hQ1
  have r2 : m * 2 ^ (107 + n.log2 - m.log2 - L) < (D + 1) * n := by
    apply Nat.lt_of_mul_lt_mul_right (a := 2 ^ (L - 1 - n.log2))
    rw [hms, hc]
    refine Nat.lt_of_lt_of_le hQ2 ?_
    rw [Nat.mul_comm]
    apply Nat.mul_le_mul_right
    rw [Nat.mul_comm] at f2
    exact f2
  have hY : ((m.log2 : Int) - 52 - ((n.log2 : Int) - 52) - ((52 + 2 + 52 - 52 : Nat) : Int) - 1 + (L : Int) + 1022).toNat + (107 + n.log2 - m.log2 - L) = 1074 := by omega
  refine ⟨_, K, 107 + n.log2 - m.log2 - L, hq.symm, by omega, by omega, by omega, by omega, by omega, ?_, ?_⟩
  · have : K * n ≤ (D + 1) * n := Nat.mul_le_mul_right _ hK2
    rw [Nat.add_mul, Nat.one_mul] at this
    omega
  · have : D * n ≤ K * n := Nat.mul_le_mul_right _ hK1
    rw [Nat.add_mul, Nat.one_mul] at r2
    omega

/-- The fields: significand S, exponent field E: the number is S * 2^-t. -/
theorem fdec_fields (neg : Bool) (m k : Nat) (h0 : 0 < m) (hm : m < 4503599627370496) (hk : 0 < k) (hk2 : k ≤ 15) :
    ∃ S E t, fdec neg m k = Ieee.double.word neg ((E - 1) * 4503599627370496 + S) ∧ 4503599627370496 ≤ S ∧ S < 9007199254740992 ∧ E + t = 1075 ∧ 900 ≤ E ∧ S * 10 ^ k ≤ m * 2 ^ t + 10 ^ k ∧ m * 2 ^ t ≤ S * 10 ^ k + 10 ^ k := by
  obtain ⟨Y, K, s, h1, h2, h3, h4, h5, h6, h7, h8⟩ := fdec_word neg m k h0 hm hk hk2
  rcases Nat.lt_or_ge K 9007199254740992 with hlt | hge
  · exact ⟨K, Y + 1, s, by rw [h1]; rfl, h2, hlt, by omega, by omega, h7, h8⟩
  · have hKe : K = 9007199254740992 := by omega
    subst hKe
    refine ⟨4503599627370496, Y + 2, s - 1, ?_, by omega, by omega, by omega, by omega, ?_, ?_⟩
    · rw [h1, show Y * 4503599627370496 + 9007199254740992 = (Y + 2 - 1) * 4503599627370496 + 4503599627370496 by omega]
    · have : m * 2 ^ s = 2 * (m * 2 ^ (s - 1)) := by
        have := psplit 1 (s - 1) s (by omega)
        rw [this, Nat.pow_one]; ac_rfl
      rw [this] at h7; omega
    · have : m * 2 ^ s = 2 * (m * 2 ^ (s - 1)) := by
        have := psplit 1 (s - 1) s (by omega)
        rw [this, Nat.pow_one]; ac_rfl
      rw [this] at h8; omega
end Go.Proofs.YtodlhjdogcpffaaDoor
