/- The same decimal written with fewer digits gives the same float. -/
import Derived.Test.YtodlhjdogcpffaaDoorHalf
namespace Go.Proofs.YtodlhjdogcpffaaDoor
open Go.RowKit

/-- One digit more ahead of a sticky one. -/
theorem sticky_step (A B : Nat) (hB : 0 < B) : 2 * (2 * A / B) + (2 * A % B != 0).toNat = 2 * (2 * (A / B) + (A % B != 0).toNat) ∨
    ∃ q c, 2 * (A / B) + (A % B != 0).toNat = 2 * q + 1 ∧ 1 ≤ c ∧ c ≤ 3 ∧ 2 * (2 * A / B) + (2 * A % B != 0).toNat = 4 * q + c := by
  have e1 := Nat.div_add_mod A B
  have e2 := Nat.mod_lt A hB
  generalize hq : A / B = q at *
  generalize hr : A % B = r at *
  have hA2 : 2 * A = B * (2 * q) + 2 * r := by rw [← e1]; rw [Nat.mul_add]; congr 1; ac_rfl
  by_cases h0 : r = 0
  · left
    subst h0
    have a1 : 2 * A / B = 2 * q := by rw [hA2]; simp [Nat.mul_div_cancel_left _ hB]
    have a2 : 2 * A % B = 0 := by rw [hA2]; simp
    rw [a1, a2]
    simp
  · right
    have b1 : (r != 0).toNat = 1 := by rw [bne_iff_ne.2 h0]; rfl
    rw [b1]
    refine ⟨q, ?_⟩
    by_cases h2r : 2 * r < B
    · have a1 : 2 * A / B = 2 * q := by rw [hA2, Nat.mul_add_div hB, Nat.div_eq_of_lt h2r, Nat.add_zero]
      have a2 : 2 * A % B = 2 * r := by rw [hA2, Nat.mul_add_mod, Nat.mod_eq_of_lt h2r]
      have : (2 * A % B != 0).toNat = 1 := by rw [a2, bne_iff_ne.2 (by omega)]; rfl
      exact ⟨1, rfl, by omega, by omega, by rw [this, a1]; omega⟩
    · have a1 : 2 * A / B = 2 * q + 1 := by
        rw [hA2, Nat.mul_add_div hB]
        have : 2 * r / B = 1 := Nat.div_eq_of_lt_le (by omega) (by omega)
        omega
      have hle := Bool.toNat_le (2 * A % B != 0)
      exact ⟨2 + (2 * A % B != 0).toNat, rfl, by omega, by omega, by rw [a1]; omega⟩

theorem cut_odd (neg : Bool) (q c d : Nat) (h1 : d + 1 ≤ (2 * q + 1).log2) (h2 : 2 ≤ d) (hc1 : 1 ≤ c) (hc3 : c ≤ 3) :
    (4 * q + c).log2 = (2 * q + 1).log2 + 1 ∧ Ieee.Toward.even.cut neg (4 * q + c) (d + 1) = Ieee.Toward.even.cut neg (2 * q + 1) d := by
  have hlog : (4 * q + c).log2 = (2 * q + 1).log2 + 1 := by
    have h3 : 2 ^ (2 * q + 1).log2 ≤ 2 * q + 1 := Nat.log2_self_le (by omega)
    have h4 : 2 * q + 1 < 2 ^ ((2 * q + 1).log2 + 1) := Nat.lt_log2_self
    generalize (2 * q + 1).log2 = L at *
    obtain ⟨k, rfl⟩ : ∃ k, L = k + 1 := ⟨L - 1, by omega⟩
    apply (Nat.log2_eq_iff (by omega)).2
    have y1 : 2 ^ (k + 1) = 2 * 2 ^ k := by rw [Nat.pow_succ]; omega
    have y2 : 2 ^ (k + 1 + 1) = 4 * 2 ^ k := by rw [Nat.pow_succ, Nat.pow_succ]; omega
    have y3 : 2 ^ (k + 1 + 1 + 1) = 8 * 2 ^ k := by rw [Nat.pow_succ, Nat.pow_succ, Nat.pow_succ]; omega
    rw [y1] at h3
    rw [y2] at h4
    rw [y2, y3]
    omega
  refine ⟨hlog, ?_⟩
  unfold Ieee.Toward.cut
  have g1 : min (d + 1) ((4 * q + c).log2 + 2) = d + 1 := by omega
  have g2 : min d ((2 * q + 1).log2 + 2) = d := by omega
  simp only [g1, g2, Nat.shiftLeft_eq, Nat.one_mul]
  obtain ⟨k, rfl⟩ : ∃ k, d = k + 2 := ⟨d - 2, by omega⟩
  have p0 : 0 < 2 ^ k := Nat.two_pow_pos k
  have p1 : 2 ^ (k + 2 + 1) = 8 * 2 ^ k := by rw [Nat.pow_succ, Nat.pow_succ, Nat.pow_succ]; omega
  have p2 : 2 ^ (k + 2) = 4 * 2 ^ k := by rw [Nat.pow_succ, Nat.pow_succ]; omega
  rw [p1, p2]
  clear h1 g1 g2 hlog p1 p2
  have m1 := Nat.div_add_mod q (2 * 2 ^ k)
  have m2 := Nat.mod_lt q (show 0 < 2 * 2 ^ k by omega)
  generalize q / (2 * 2 ^ k) = Q at *
  generalize q % (2 * 2 ^ k) = R at *
  subst m1
  have x1 : 4 * (2 * 2 ^ k * Q + R) + c = 8 * 2 ^ k * Q + (4 * R + c) := by rw [Nat.mul_add, Nat.add_assoc]; congr 1; rw [← Nat.mul_assoc, ← Nat.mul_assoc]
  have x2 : 2 * (2 * 2 ^ k * Q + R) + 1 = 4 * 2 ^ k * Q + (2 * R + 1) := by rw [Nat.mul_add, Nat.add_assoc]; congr 1; rw [← Nat.mul_assoc, ← Nat.mul_assoc]
  rw [x1, x2, Nat.mul_add_div (by omega), Nat.mul_add_mod, Nat.mul_add_div (by omega), Nat.mul_add_mod, Nat.div_eq_of_lt (by omega : 4 * R + c < 8 * 2 ^ k), Nat.mod_eq_of_lt (by omega : 4 * R + c < 8 * 2 ^ k), Nat.div_eq_of_lt (by omega : 2 * R + 1 < 4 * 2 ^ k), Nat.mod_eq_of_lt (by omega : 2 * R + 1 < 4 * 2 ^ k)]
  have t1 : (8 * 2 ^ k < 2 * (4 * R + c)) = (4 * 2 ^ k < 2 * (2 * R + 1)) := by
    apply propext; constructor <;> intro h <;> omega
  have t2 : (8 * 2 ^ k == 2 * (4 * R + c)) = (4 * 2 ^ k == 2 * (2 * R + 1)) := by
    rw [Bool.eq_iff_iff, beq_iff_eq, beq_iff_eq]
    obtain ⟨j, hj⟩ : ∃ j, 2 ^ k = j := ⟨_, rfl⟩
    rw [hj]
    constructor <;> intro h
    · exfalso; omega
    · exfalso; omega
  simp only [t1, t2]

/-- The nearest word of a quotient does not hang on one digit more. -/
theorem nearest_sticky (neg : Bool) (A B : Nat) (p : Int) (hB : 0 < B) (h1 : 54 ≤ (2 * (A / B) + (A % B != 0).toNat).log2) (h2 : -1074 ≤ p + ((2 * (A / B) + (A % B != 0).toNat).log2 : Int) - 52) :
    Ieee.double.nearest neg (2 * (2 * A / B) + (2 * A % B != 0).toNat) (p - 1) = Ieee.double.nearest neg (2 * (A / B) + (A % B != 0).toNat) p := by
  rcases sticky_step A B hB with h | ⟨q, c, ha, hc1, hc3, hb⟩
  · rw [h]
    have := Fl.nearest_scale Ieee.double neg (2 * (A / B) + (A % B != 0).toNat) 1 p
    rw [Nat.pow_one, Nat.mul_comm] at this
    exact this
  · rw [hb, ha]
    rw [ha] at h1 h2
    have hl : max (p + ((2 * q + 1).log2 : Int) - (Ieee.double.fractionBits : Int)) Ieee.double.leastPlace = p + ((2 * q + 1).log2 : Int) - 52 := by
      simp only [Ieee.double, Ieee.Format.leastPlace]; omega
    obtain ⟨g1, g2⟩ := cut_odd neg q c ((2 * q + 1).log2 - 52) (by omega) (by omega) hc1 hc3
    unfold Ieee.Format.nearest
    rw [if_neg (by omega), if_neg (by omega)]
    dsimp only
    have hl2 : max (p - 1 + ((4 * q + c).log2 : Int) - (Ieee.double.fractionBits : Int)) Ieee.double.leastPlace = p + ((2 * q + 1).log2 : Int) - 52 := by
      rw [← hl, g1]; congr 1; omega
    rw [hl, hl2]
    have e1 : (p - 1 - (p + ((2 * q + 1).log2 : Int) - 52)).toNat = 0 := by omega
    have e2 : (p - (p + ((2 * q + 1).log2 : Int) - 52)).toNat = 0 := by omega
    have e3 : (p + ((2 * q + 1).log2 : Int) - 52 - (p - 1)).toNat = (2 * q + 1).log2 - 52 + 1 := by omega
    have e4 : (p + ((2 * q + 1).log2 : Int) - 52 - p).toNat = (2 * q + 1).log2 - 52 := by omega
    rw [e1, e2, e3, e4, Nat.shiftLeft_eq, Nat.shiftLeft_eq, Nat.pow_zero, Nat.mul_one, Nat.mul_one, g2]

/-- The word of m/10^k as the nearest to a quotient with a sticky digit. -/
theorem fdec_near (neg : Bool) (m k : Nat) (h0 : 0 < m) (hm : m < 4503599627370496) (hk : 0 < k) (hk2 : k ≤ 15) :
    fdec neg m k = Ieee.double.nearest neg (2 * (m * 2 ^ (106 - m.log2) / (10 ^ k * 2 ^ (52 - (10 ^ k).log2))) + (m * 2 ^ (106 - m.log2) % (10 ^ k * 2 ^ (52 - (10 ^ k).log2)) != 0).toNat) ((m.log2 : Int) - ((10 ^ k).log2 : Int) - 55) ∧
      54 ≤ (2 * (m * 2 ^ (106 - m.log2) / (10 ^ k * 2 ^ (52 - (10 ^ k).log2))) + (m * 2 ^ (106 - m.log2) % (10 ^ k * 2 ^ (52 - (10 ^ k).log2)) != 0).toNat).log2 := by
  have hn0 : 0 < 10 ^ k := Nat.pow_pos (by omega)
  have hn := pow10_lt k hk2
  have hq := fdec_quo neg m k h0 hm hk hk2
  generalize fdec neg m k = r at hq ⊢
  generalize 10 ^ k = n at *
  have e0 : floatBits .quo .f64 (fint neg m) (fint false n) = Ieee.double.div (Ieee.double.nearest neg m 0) (Ieee.double.nearest false n 0) := rfl
  rw [e0] at hq
  unfold Ieee.Format.div at hq
  have l1 := Fl.log2_le m h0 (by omega)
  have l2 := Fl.log2_le n hn0 hn
  rw [Fl.read_int neg m h0 (by omega), Fl.read_int false n hn0 hn] at hq
  have g1 : (m * 2 ^ (52 - m.log2)).log2 = 52 := by rw [Fl.log2_mul_pow m _ h0]; omega
  have g2 : (n * 2 ^ (52 - n.log2)).log2 = 52 := by rw [Fl.log2_mul_pow n _ hn0]; omega
  have hN : 0 < n * 2 ^ (52 - n.log2) := Nat.mul_pos hn0 (Nat.two_pow_pos _)
  have efb : Ieee.double.fractionBits = 52 := rfl
  simp only [Ieee.Datum.quotient, g1, g2, efb] at hq
  rw [if_neg (by omega)] at hq
  simp only [Option.map_some, Ieee.Format.write, Bool.xor_false, Nat.shiftLeft_eq, Option.some.injEq] at hq
  have sm := Fl.sig_bounds m h0 (by omega)
  have sn := Fl.sig_bounds n hn0 hn
  have hdv : m * 2 ^ (52 - m.log2) * 2 ^ (52 + 2 + 52 - 52) = m * 2 ^ (106 - m.log2) := by
    rw [Nat.mul_assoc, ← Nat.pow_add]; congr 2; omega
  rw [hdv] at hq
  refine ⟨?_, ?_⟩
  · rw [← hq]; congr 1; omega
  · have hB1 : 2 ^ 53 ≤ m * 2 ^ (106 - m.log2) / (n * 2 ^ (52 - n.log2)) := by
      apply (Nat.le_div_iff_mul_le hN).2
      have e : m * 2 ^ (106 - m.log2) = m * 2 ^ (52 - m.log2) * 2 ^ 54 := by rw [Nat.mul_assoc, ← Nat.pow_add]; congr 2; omega
      rw [e]
      have a1 : 2 ^ 53 * (n * 2 ^ (52 - n.log2)) ≤ 2 ^ 53 * 2 ^ 53 := Nat.mul_le_mul_left _ (Nat.le_of_lt sn.2)
      have a2 : 2 ^ 52 * 2 ^ 54 ≤ m * 2 ^ (52 - m.log2) * 2 ^ 54 := Nat.mul_le_mul_right _ sm.1
      exact Nat.le_trans a1 (Nat.le_trans (by decide) a2)
    exact (Nat.le_log2 (by omega)).2 (by omega)

theorem log2_ten (a : Nat) (h : 0 < a) : (10 * a).log2 = a.log2 + 3 ∨ (10 * a).log2 = a.log2 + 4 := by
  have h3 : 2 ^ a.log2 ≤ a := Nat.log2_self_le (by omega)
  have h4 : a < 2 ^ (a.log2 + 1) := Nat.lt_log2_self
  have a1 : a.log2 + 3 ≤ (10 * a).log2 := (Nat.le_log2 (by omega)).2 (by rw [Nat.pow_add]; omega)
  have a2 : (10 * a).log2 < a.log2 + 5 := (Nat.log2_lt (by omega)).2 (by rw [Nat.pow_add] at *; omega)
  omega

theorem same_ratio (B2 B1 : Nat) (hB : B2 * 8 = B1 * 10) (x y : Nat) (h : x * 8 = y * 10) : x / B2 = y / B1 ∧ (x % B2 != 0) = (y % B1 != 0) := by
  refine ⟨?_, ?_⟩
  · rw [← Nat.mul_div_mul_right x B2 (show 0 < 8 by omega), h, hB, Nat.mul_div_mul_right _ _ (by omega)]
  · have h1 := Nat.mul_mod_mul_right 8 x B2
    have h2 := Nat.mul_mod_mul_right 10 y B1
    rw [h, hB] at h1
    rw [h1] at h2
    rw [Bool.eq_iff_iff, bne_iff_ne, bne_iff_ne]
    constructor <;> intro h3 h4 <;> apply h3 <;> omega
/-- One nought less behind the point. -/
theorem fdec_nought (neg : Bool) (a : Nat) (h0 : 0 < a) (hm : 10 * a < 4503599627370496) : fdec neg (10 * a) 2 = fdec neg a 1 := by
  obtain ⟨p1, l1⟩ := fdec_near neg (10 * a) 2 (by omega) hm (by omega) (by omega)
  obtain ⟨p2, l2⟩ := fdec_near neg a 1 h0 (by omega) (by omega) (by omega)
  have hla := Fl.log2_le a h0 (by omega)
  have hl10 : (10 ^ 1).log2 = 3 := by decide +kernel
  have hl100 : (10 ^ 2).log2 = 6 := by decide +kernel
  rw [hl100] at p1 l1
  rw [hl10] at p2 l2
  rw [p1, p2]
  have hB : 0 < 10 ^ 1 * 2 ^ (52 - 3) := by decide
  have key := same_ratio (10 ^ 2 * 2 ^ (52 - 6)) (10 ^ 1 * 2 ^ (52 - 3)) (by decide)
  rcases log2_ten a h0 with h | h
  · rw [h] at l1 ⊢
    obtain ⟨k1, k2⟩ := key (10 * a * 2 ^ (106 - (a.log2 + 3))) (a * 2 ^ (106 - a.log2)) (by
      have : 2 ^ (106 - a.log2) = 2 ^ (106 - (a.log2 + 3)) * 2 ^ 3 := psplit _ _ _ (by omega)
      rw [this]; have : 2 ^ 3 = 8 := rfl; rw [this]; ac_rfl)
    rw [k1, k2]
    congr 1; omega
  · rw [h] at l1 ⊢
    obtain ⟨k1, k2⟩ := key (10 * a * 2 ^ (106 - (a.log2 + 4))) (a * 2 ^ (105 - a.log2)) (by
      have : 2 ^ (105 - a.log2) = 2 ^ (106 - (a.log2 + 4)) * 2 ^ 3 := psplit _ _ _ (by omega)
      rw [this]; have : 2 ^ 3 = 8 := rfl; rw [this]; ac_rfl)
    rw [k1, k2] at l1 ⊢
    have e2 : a * 2 ^ (106 - a.log2) = 2 * (a * 2 ^ (105 - a.log2)) := by
      have : 2 ^ (106 - a.log2) = 2 ^ 1 * 2 ^ (105 - a.log2) := psplit _ _ _ (by omega)
      rw [this, Nat.pow_one]; ac_rfl
    rw [e2]
    have := nearest_sticky neg (a * 2 ^ (105 - a.log2)) (10 ^ 1 * 2 ^ (52 - 3)) (((a.log2 + 4 : Nat) : Int) - ((6 : Nat) : Int) - 55) hB l1 (by omega)
    rw [← this]
    congr 1; omega
/-- Noughts at the end change nothing. -/
theorem fdec_whole (neg : Bool) (a k : Nat) (h0 : 0 < a) (hk : 0 < k) (hk2 : k ≤ 2) (hm : 10 ^ k * a < 4503599627370496) : fdec neg (10 ^ k * a) k = fint neg a := by
  have hp : 0 < 10 ^ k * a := Nat.mul_pos (Nat.pow_pos (by omega)) h0
  have l : (10 ^ k * a).log2 < 52 := (Nat.log2_lt (Nat.ne_of_gt hp)).2 hm
  exact fdec_exact neg (10 ^ k * a) k a 0 hp hm hk (by omega) (by rw [Nat.pow_zero, Nat.mul_one]) (Nat.le_trans (by rw [Nat.zero_add]; exact Nat.le_trans (Nat.le_of_lt l) (by omega)) (Nat.le_add_right 54 _))
end Go.Proofs.YtodlhjdogcpffaaDoor
