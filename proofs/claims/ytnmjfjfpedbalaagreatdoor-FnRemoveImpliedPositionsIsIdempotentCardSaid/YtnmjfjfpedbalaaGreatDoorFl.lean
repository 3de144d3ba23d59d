/- Binary floats: whole numbers are exact: plain laws on the words, no program in sight. -/
import Ieee.Arith
namespace Go.Proofs.YtnmjfjfpedbalaaGreatDoor
namespace Fl
open Ieee

theorem log2_mul_pow (m j : Nat) (hm : 0 < m) : (m * 2 ^ j).log2 = m.log2 + j := by
  have h1 : 2 ^ m.log2 ≤ m := Nat.log2_self_le (by omega)
  have h2 : m < 2 ^ (m.log2 + 1) := Nat.lt_log2_self
  have hp : 0 < 2 ^ j := Nat.two_pow_pos j
  have h0 : m * 2 ^ j ≠ 0 := by have := Nat.mul_pos hm hp; omega
  apply (Nat.log2_eq_iff h0).2
  constructor
  · rw [Nat.pow_add]; exact Nat.mul_le_mul_right _ h1
  · have : 2 ^ (m.log2 + j + 1) = 2 ^ (m.log2 + 1) * 2 ^ j := by rw [← Nat.pow_add]; congr 1; omega
    rw [this]; exact Nat.mul_lt_mul_of_pos_right h2 hp

theorem cut_scale (neg : Bool) (n drop a : Nat) (hn : 0 < n) : Toward.even.cut neg (n * 2 ^ a) (drop + a) = Toward.even.cut neg n drop := by
  unfold Toward.cut
  have hp : 0 < 2 ^ a := Nat.two_pow_pos a
  have hg : 1 <<< min (drop + a) ((n * 2 ^ a).log2 + 2) = (1 <<< min drop (n.log2 + 2)) * 2 ^ a := by
    rw [log2_mul_pow n a hn, Nat.shiftLeft_eq, Nat.shiftLeft_eq, Nat.one_mul, Nat.one_mul, ← Nat.pow_add]
    congr 1
    omega
  dsimp only
  rw [hg]
  generalize 1 <<< min drop (n.log2 + 2) = g
  rw [Nat.mul_div_mul_right _ _ hp, Nat.mul_mod_mul_right]
  have e1 : (g * 2 ^ a < 2 * (n % g * 2 ^ a)) = (g < 2 * (n % g)) := by
    rw [← Nat.mul_assoc]
    exact propext (Nat.mul_lt_mul_right hp)
  have e2 : (g * 2 ^ a == 2 * (n % g * 2 ^ a)) = (g == 2 * (n % g)) := by
    rw [← Nat.mul_assoc, Bool.eq_iff_iff, beq_iff_eq, beq_iff_eq]
    exact ⟨fun h => Nat.eq_of_mul_eq_mul_right hp h, fun h => by rw [← h]⟩
  simp only [e1, e2]

theorem nearest_scale (f : Format) (neg : Bool) (m j : Nat) (p : Int) : f.nearest neg (m * 2 ^ j) (p - j) = f.nearest neg m p := by
  unfold Format.nearest
  rcases Nat.eq_zero_or_pos m with rfl | hm
  · simp
  have hp : 0 < 2 ^ j := Nat.two_pow_pos j
  have h0 : m * 2 ^ j ≠ 0 := by have := Nat.mul_pos hm hp; omega
  rw [if_neg h0, if_neg (by omega : ¬ m = 0), log2_mul_pow m j hm]
  have hl : p - (j : Int) + ((m.log2 + j : Nat) : Int) - f.fractionBits = p + (m.log2 : Int) - f.fractionBits := by omega
  dsimp only
  rw [hl]
  generalize max (p + (m.log2 : Int) - f.fractionBits) f.leastPlace = last
  have hk : Toward.even.cut neg ((m * 2 ^ j) <<< (p - (j : Int) - last).toNat) (last - (p - (j : Int))).toNat = Toward.even.cut neg (m <<< (p - last).toNat) (last - p).toNat := by
    rw [Nat.shiftLeft_eq, Nat.shiftLeft_eq]
    by_cases h1 : 0 ≤ p - (j : Int) - last
    · have e1 : (last - (p - (j : Int))).toNat = 0 := by omega
      have e2 : (last - p).toNat = 0 := by omega
      have e3 : (p - last).toNat = j + (p - (j : Int) - last).toNat := by omega
      rw [e1, e2, e3, Nat.pow_add, Nat.mul_assoc]
    · have e1 : (p - (j : Int) - last).toNat = 0 := by omega
      rw [e1, Nat.pow_zero, Nat.mul_one]
      by_cases h2 : 0 ≤ p - last
      · have e2 : (last - p).toNat = 0 := by omega
        have e3 : j = (p - last).toNat + (last - (p - (j : Int))).toNat := by omega
        have e4 : m * 2 ^ j = m * 2 ^ (p - last).toNat * 2 ^ (last - (p - (j : Int))).toNat := by
          rw [Nat.mul_assoc, ← Nat.pow_add, ← e3]
        rw [e4, e2]
        have := cut_scale neg (m * 2 ^ (p - last).toNat) 0 (last - (p - (j : Int))).toNat (Nat.mul_pos hm (Nat.two_pow_pos _))
        rw [Nat.zero_add] at this
        exact this
      · have e2 : (p - last).toNat = 0 := by omega
        have e3 : (last - (p - (j : Int))).toNat = (last - p).toNat + j := by omega
        rw [e2, e3, Nat.pow_zero, Nat.mul_one]
        exact cut_scale neg m _ j hm
  rw [hk]
/-- The rung of a whole number. -/
def rung (m : Nat) : Nat := (m.log2 + 1022) * 2 ^ 52 + m * 2 ^ (52 - m.log2)

theorem log2_le (m : Nat) (hm : 0 < m) (h : m < 2 ^ 53) : m.log2 ≤ 52 := by
  have := (Nat.log2_lt (by omega : m ≠ 0)).2 h
  omega
theorem sig_bounds (m : Nat) (hm : 0 < m) (h : m < 2 ^ 53) : 2 ^ 52 ≤ m * 2 ^ (52 - m.log2) ∧ m * 2 ^ (52 - m.log2) < 2 ^ 53 := by
  have hk := log2_le m hm h
  have h1 : 2 ^ m.log2 ≤ m := Nat.log2_self_le (by omega)
  have h2 : m < 2 ^ (m.log2 + 1) := Nat.lt_log2_self
  have hp : 0 < 2 ^ (52 - m.log2) := Nat.two_pow_pos _
  have e1 : 2 ^ m.log2 * 2 ^ (52 - m.log2) = 2 ^ 52 := by rw [← Nat.pow_add]; congr 1; omega
  have e2 : 2 ^ (m.log2 + 1) * 2 ^ (52 - m.log2) = 2 ^ 53 := by rw [← Nat.pow_add]; congr 1; omega
  constructor
  · rw [← e1]; exact Nat.mul_le_mul_right _ h1
  · rw [← e2]; exact Nat.mul_lt_mul_of_pos_right h2 hp

theorem cut_zero (neg : Bool) (n : Nat) : Toward.even.cut neg n 0 = n := by
  unfold Toward.cut
  simp [Nat.mod_one]

theorem nearest_int (neg : Bool) (m : Nat) (hm : 0 < m) (h : m < 2 ^ 53) : double.nearest neg m 0 = double.word neg (rung m) := by
  have hk := log2_le m hm h
  obtain ⟨h1, h2⟩ := sig_bounds m hm h
  unfold Format.nearest
  rw [if_neg (by omega : ¬ m = 0)]
  have hl : max ((0 : Int) + (m.log2 : Int) - (double.fractionBits : Int)) double.leastPlace = (m.log2 : Int) - 52 := by
    simp only [double, Format.leastPlace]
    omega
  have e1 : (0 - ((m.log2 : Int) - 52)).toNat = 52 - m.log2 := by omega
  have e2 : ((m.log2 : Int) - 52 - 0).toNat = 0 := by omega
  have e3 : ((m.log2 : Int) - 52 - double.leastPlace).toNat = m.log2 + 1022 := by simp only [double, Format.leastPlace]; omega
  dsimp only
  rw [hl, e1, e2, e3, cut_zero, Nat.shiftLeft_eq]
  have e4 : min ((m.log2 + 1022) * double.binade + m * 2 ^ (52 - m.log2)) double.infRung = rung m := by
    have e5 : double.binade = 2 ^ 52 := rfl
    have e6 : double.infRung = 2047 * 2 ^ 52 := rfl
    rw [e5, e6, rung]
    apply Nat.min_eq_left
    generalize m * 2 ^ (52 - m.log2) = X at h1 h2
    generalize m.log2 = k at hk
    have h3 : (k + 1022) * 2 ^ 52 ≤ 1074 * 2 ^ 52 := Nat.mul_le_mul_right _ (by omega)
    calc (k + 1022) * 2 ^ 52 + X ≤ 1074 * 2 ^ 52 + 2 ^ 53 := Nat.add_le_add h3 (Nat.le_of_lt h2)
      _ ≤ 2047 * 2 ^ 52 := by decide
  rw [e4]

theorem rung_bounds (m : Nat) (hm : 0 < m) (h : m < 2 ^ 53) : rung m / 2 ^ 52 = m.log2 + 1023 ∧ rung m % 2 ^ 52 = m * 2 ^ (52 - m.log2) - 2 ^ 52 ∧ rung m < 2 ^ 63 := by
  obtain ⟨h1, h2⟩ := sig_bounds m hm h
  have hk := log2_le m hm h
  unfold rung
  omega

theorem word_neg (neg : Bool) (r : Nat) (h : r < 2 ^ 63) : (double.word neg r / double.signWeight % 2 == 1) = neg ∧ double.word neg r % double.signWeight = r := by
  have e : double.signWeight = 2 ^ 63 := rfl
  rw [e]
  unfold Format.word
  rw [e]
  cases neg
  · simp only [Bool.false_eq_true, if_false, beq_eq_false_iff_ne]
    omega
  · simp only [if_true, beq_iff_eq]
    omega

theorem read_int (neg : Bool) (m : Nat) (hm : 0 < m) (h : m < 2 ^ 53) : double.read (double.nearest neg m 0) = .number neg (m * 2 ^ (52 - m.log2)) ((m.log2 : Int) - 52) := by
  rw [nearest_int neg m hm h]
  obtain ⟨h1, h2, h3⟩ := rung_bounds m hm h
  obtain ⟨h4, h5⟩ := word_neg neg (rung m) h3
  have hs := sig_bounds m hm h
  have hk := log2_le m hm h
  unfold Format.read
  dsimp only
  rw [h4, h5]
  have e5 : double.binade = 2 ^ 52 := rfl
  have e6 : double.infRung = 2047 * 2 ^ 52 := rfl
  have e7 : double.leastPlace = -1074 := rfl
  rw [e5, e6, e7, h1, h2, if_neg (by unfold rung; omega), if_pos (by unfold rung; omega)]
  have a1 : 2 ^ 52 + (m * 2 ^ (52 - m.log2) - 2 ^ 52) = m * 2 ^ (52 - m.log2) := by omega
  have a2 : (-1074 : Int) + ((m.log2 + 1023 - 1 : Nat) : Int) = (m.log2 : Int) - 52 := by omega
  rw [a1, a2]

theorem read_zero (neg : Bool) (p : Int) : double.read (double.nearest neg 0 p) = .number neg 0 (-1074) := by
  have e : double.nearest neg 0 p = double.word neg 0 := by unfold Format.nearest; simp
  rw [e]
  cases neg <;> decide +kernel

theorem mul_int (s t : Bool) (m n : Nat) (hm : m < 2 ^ 53) (hn : n < 2 ^ 53) : double.mul (double.nearest s m 0) (double.nearest t n 0) = some (double.nearest (s ^^ t) (m * n) 0) := by
  unfold Format.mul
  rcases Nat.eq_zero_or_pos m with rfl | hm0
  · rw [read_zero]
    rcases Nat.eq_zero_or_pos n with rfl | hn0
    · rw [read_zero]; simp [Datum.product, Format.write, Format.nearest]
    · rw [read_int t n hn0 hn]; simp [Datum.product, Format.write, Format.nearest]
  · rw [read_int s m hm0 hm]
    rcases Nat.eq_zero_or_pos n with rfl | hn0
    · rw [read_zero]; simp [Datum.product, Format.write, Format.nearest]
    · rw [read_int t n hn0 hn]
      have hk := log2_le m hm0 hm
      have hk2 := log2_le n hn0 hn
      simp only [Datum.product, Option.map_some, Format.write]
      have e : m * 2 ^ (52 - m.log2) * (n * 2 ^ (52 - n.log2)) = m * n * 2 ^ (52 - m.log2 + (52 - n.log2)) := by
        rw [Nat.pow_add]; ac_rfl
      have e2 : (m.log2 : Int) - 52 + ((n.log2 : Int) - 52) = 0 - ((52 - m.log2 + (52 - n.log2) : Nat) : Int) := by omega
      rw [e, e2, nearest_scale]

/-- A whole number, cut towards zero, is itself. -/
theorem toInt_int (neg : Bool) (m : Nat) (h : m < 2 ^ 53) : (double.read (double.nearest neg m 0)).toInt .zero = some (if neg then -(m : Int) else m) := by
  rcases Nat.eq_zero_or_pos m with rfl | hm
  · rw [read_zero]; cases neg <;> rfl
  · rw [read_int neg m hm h]
    have hk := log2_le m hm h
    have hs := sig_bounds m hm h
    unfold Datum.toInt Datum.integral
    dsimp only
    have e1 : ((m.log2 : Int) - 52).toNat = 0 := by omega
    have e2 : (-((m.log2 : Int) - 52)).toNat = 52 - m.log2 := by omega
    rw [e1, e2, Nat.shiftLeft_eq, Nat.pow_zero, Nat.mul_one]
    have e3 : Toward.zero.cut neg (m * 2 ^ (52 - m.log2)) (52 - m.log2) = m := by
      unfold Toward.cut
      have hp : 0 < 2 ^ (52 - m.log2) := Nat.two_pow_pos _
      rw [log2_mul_pow m _ hm, Nat.min_eq_left (by omega), Nat.shiftLeft_eq, Nat.one_mul]
      simp [Nat.mul_div_cancel _ hp]
    rw [e3]
    simp [signed, Nat.shiftLeft_zero]
end Fl
end Go.Proofs.YtnmjfjfpedbalaaGreatDoor
