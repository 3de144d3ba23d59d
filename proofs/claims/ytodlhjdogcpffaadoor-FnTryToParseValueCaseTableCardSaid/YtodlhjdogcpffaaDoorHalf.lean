/- Exact divisions: m/10^k is X/2^j: the word of it is the nearest to X * 2^-j; sums with one half. -/
import Derived.Test.YtodlhjdogcpffaaDoorParseFrac
import Derived.Test.YtodlhjdogcpffaaDoorRoundInt
namespace Go.Proofs.YtodlhjdogcpffaaDoor
open Go.RowKit

theorem psplit (a b c : Nat) (h : a + b = c) : 2 ^ c = 2 ^ a * 2 ^ b := by rw [← h, Nat.pow_add]

/-- What a word of a long number stands for. -/
theorem read_long (neg : Bool) (Y K : Nat) (hY : Y ≤ 2000) (h1 : 4503599627370496 ≤ K) (h2 : K ≤ 9007199254740992) :
    ∃ (S : Nat) (e : Int) (j : Nat), Ieee.double.read (Ieee.double.word neg (Y * 4503599627370496 + K)) = .number neg S e ∧ K = S * 2 ^ j ∧ e - (j : Int) = (Y : Int) - 1074 := by
  have hR : Y * 4503599627370496 + K < 2 ^ 63 := by omega
  obtain ⟨a1, a2⟩ := Fl.word_neg neg _ hR
  have e5 : Ieee.double.binade = 4503599627370496 := rfl
  have e6 : Ieee.double.infRung = 2047 * 4503599627370496 := rfl
  have e7 : Ieee.double.leastPlace = -1074 := rfl
  rcases Nat.lt_or_ge K 9007199254740992 with hlt | hge
  · refine ⟨K, (Y : Int) - 1074, 0, ?_, by omega, by omega⟩
    unfold Ieee.Format.read
    dsimp only
    rw [a1, a2, e5, e6, e7, if_neg (by omega), if_pos (by omega)]
    have b1 : 4503599627370496 + (Y * 4503599627370496 + K) % 4503599627370496 = K := by omega
    have b2 : (-1074 : Int) + (((Y * 4503599627370496 + K) / 4503599627370496 - 1 : Nat) : Int) = (Y : Int) - 1074 := by omega
    rw [b1, b2]
  · refine ⟨4503599627370496, (Y : Int) - 1073, 1, ?_, by omega, by omega⟩
    unfold Ieee.Format.read
    dsimp only
    rw [a1, a2, e5, e6, e7, if_neg (by omega), if_pos (by omega)]
    have b1 : 4503599627370496 + (Y * 4503599627370496 + K) % 4503599627370496 = 4503599627370496 := by omega
    have b2 : (-1074 : Int) + (((Y * 4503599627370496 + K) / 4503599627370496 - 1 : Nat) : Int) = (Y : Int) - 1073 := by omega
    rw [b1, b2]

/-- The nearest word is a number's or an infinity's, never a NaN's. -/
theorem read_nearest (neg : Bool) (m : Nat) (p : Int) : (∃ S e, Ieee.double.read (Ieee.double.nearest neg m p) = .number neg S e) ∨ Ieee.double.read (Ieee.double.nearest neg m p) = .infinity neg := by
  have hw : ∃ R, Ieee.double.nearest neg m p = Ieee.double.word neg R ∧ R ≤ 9218868437227405312 := by
    unfold Ieee.Format.nearest
    split
    · exact ⟨0, rfl, by omega⟩
    · exact ⟨_, rfl, Nat.min_le_right _ _⟩
  obtain ⟨R, hR, hle⟩ := hw
  rw [hR]
  obtain ⟨a1, a2⟩ := Fl.word_neg neg R (by omega)
  have e5 : Ieee.double.binade = 4503599627370496 := rfl
  have e6 : Ieee.double.infRung = 9218868437227405312 := rfl
  unfold Ieee.Format.read
  dsimp only
  rw [a1, a2, e5, e6]
  split
  · exact Or.inl ⟨_, _, rfl⟩
  · split
    · exact Or.inl ⟨_, _, rfl⟩
    · rw [if_pos (by omega)]; exact Or.inr rfl

theorem floatEq_nearest (neg : Bool) (m : Nat) (p : Int) : Op.floatEq .f64 (Ieee.double.nearest neg m p) (Ieee.double.nearest neg m p) = true := by
  have e : Op.floatEq .f64 (Ieee.double.nearest neg m p) (Ieee.double.nearest neg m p) = (Ieee.double.order (Ieee.double.nearest neg m p) (Ieee.double.nearest neg m p) == some .eq) := rfl
  rw [e]
  unfold Ieee.Format.order
  rcases read_nearest neg m p with ⟨S, e, h⟩ | h
  · rw [h]
    simp only [Ieee.Datum.order]
    simp [compare, compareOfLessAndEq]
  · rw [h]; cases neg <;> decide

/-- A product of a nearest word that is a number. -/
theorem mul_number (neg : Bool) (m c : Nat) (p : Int) {S : Nat} {e : Int} {t : Bool} {n : Nat} {j : Int} (h : Ieee.double.read (Ieee.double.nearest neg m p) = .number neg S e) (hc : Ieee.double.read c = .number t n j) :
    floatBits .mul .f64 (Ieee.double.nearest neg m p) c = some (Ieee.double.nearest (neg ^^ t) (S * n) (e + j)) := by
  have e0 : floatBits .mul .f64 (Ieee.double.nearest neg m p) c = Ieee.double.mul (Ieee.double.nearest neg m p) c := rfl
  rw [e0]
  unfold Ieee.Format.mul
  rw [h, hc]
  simp only [Ieee.Datum.product, Option.map_some, Ieee.Format.write]

/-- A number of few digits, read. -/
theorem read_half (neg : Bool) (x : Nat) (h0 : 0 < x) (h : x < 2 ^ 53) : ∃ S e, Ieee.double.read (Ieee.double.nearest neg x (-1)) = .number neg S e := by
  have hk := Fl.log2_le x h0 h
  have hs := Fl.nearest_scale Ieee.double neg x (52 - x.log2) (-1)
  rw [← hs]
  have hl : (x * 2 ^ (52 - x.log2)).log2 = 52 := by rw [Fl.log2_mul_pow x _ h0]; omega
  have hp : 0 < x * 2 ^ (52 - x.log2) := Nat.mul_pos h0 (Nat.two_pow_pos _)
  obtain ⟨K, h1, h2, h3⟩ := nearest_big neg (x * 2 ^ (52 - x.log2)) (-1 - ((52 - x.log2 : Nat) : Int)) (by omega) hp (by omega) (by omega)
  rw [hl, Nat.sub_self, Nat.pow_zero, Nat.div_one] at h2 h3
  have hb := Fl.sig_bounds x h0 h
  rw [h1]
  obtain ⟨S, e, j, r1, _, _⟩ := read_long neg (-1 - ((52 - x.log2 : Nat) : Int) + ((x * 2 ^ (52 - x.log2)).log2 : Int) + 1022).toNat K (by omega) (by omega) (by omega)
  exact ⟨S, e, r1⟩

theorem fdec_exact (neg : Bool) (m k X j : Nat) (h0 : 0 < m) (hm : m < 4503599627370496) (hk : 0 < k) (hk2 : k ≤ 15) (he : m * 2 ^ j = 10 ^ k * X) (hj : j + m.log2 ≤ 54 + (10 ^ k).log2) : fdec neg m k = Ieee.double.nearest neg X (-(j : Int)) := by
  have hn0 : 0 < 10 ^ k := Nat.pow_pos (by omega)
  have hn := pow10_lt k hk2
  have hq := fdec_quo neg m k h0 hm hk hk2
  generalize fdec neg m k = r at hq ⊢
  generalize 10 ^ k = n at *
  have e0 : floatBits .quo .f64 (fint neg m) (fint false n) = Ieee.double.div (Ieee.double.nearest neg m 0) (Ieee.double.nearest false n 0) := rfl
  rw [e0] at hq
  unfold Ieee.Format.div at hq
  have l1 := Fl.log2_le m h0 (by omega)
  have l2 := Fl.log2_le n hn0 hn
  rw [Fl.read_int neg m h0 (by omega), Fl.read_int false n hn0 hn] at hq
  have g1 : (m * 2 ^ (52 - m.log2)).log2 = 52 := by rw [Fl.log2_mul_pow m _ h0]; omega
  have g2 : (n * 2 ^ (52 - n.log2)).log2 = 52 := by rw [Fl.log2_mul_pow n _ hn0]; omega
  have hN : 0 < n * 2 ^ (52 - n.log2) := Nat.mul_pos hn0 (Nat.two_pow_pos _)
  have efb : Ieee.double.fractionBits = 52 := rfl
  simp only [Ieee.Datum.quotient, g1, g2, efb] at hq
  rw [if_neg (by omega)] at hq
  simp only [Option.map_some, Ieee.Format.write, Bool.xor_false, Nat.shiftLeft_eq, Option.some.injEq] at hq
  have hdiv : m * 2 ^ (52 - m.log2) * 2 ^ (52 + 2 + 52 - 52) = n * 2 ^ (52 - n.log2) * (X * 2 ^ (54 + n.log2 - m.log2 - j)) := by
    have a1 : m * 2 ^ (52 - m.log2) * 2 ^ (52 + 2 + 52 - 52) = m * 2 ^ j * 2 ^ (106 - m.log2 - j) := by
      rw [Nat.mul_assoc, Nat.mul_assoc, ← Nat.pow_add, ← Nat.pow_add]; congr 2; omega
    have a2 : 2 ^ (106 - m.log2 - j) = 2 ^ (52 - n.log2) * 2 ^ (54 + n.log2 - m.log2 - j) := psplit _ _ _ (by omega)
    rw [a1, he, a2]; ac_rfl
  rw [hdiv, Nat.mul_div_cancel_left _ hN, Nat.mul_mod_right] at hq
  have b1 : 2 * (X * 2 ^ (54 + n.log2 - m.log2 - j)) + (0 != 0).toNat = X * 2 ^ (55 + n.log2 - m.log2 - j) := by
    have : 2 ^ (55 + n.log2 - m.log2 - j) = 2 ^ 1 * 2 ^ (54 + n.log2 - m.log2 - j) := psplit _ _ _ (by omega)
    rw [this]
    have z : (0 != 0).toNat = 0 := rfl
    rw [z, Nat.add_zero, Nat.pow_one]; ac_rfl
  have b2 : (m.log2 : Int) - 52 - ((n.log2 : Int) - 52) - ((52 + 2 + 52 - 52 : Nat) : Int) - 1 = -(j : Int) - ((55 + n.log2 - m.log2 - j : Nat) : Int) := by omega
  rw [b1, b2, Fl.nearest_scale] at hq
  exact hq.symm

theorem log2_half (a : Nat) (h : 0 < a) (ha : a < 2 ^ 40) : (10 * a).log2 ≤ 44 := by
  have := (Nat.log2_lt (by omega : 10 * a ≠ 0)).2 (by omega : 10 * a < 2 ^ 44)
  omega
/-- n and a half, as ParseFloat gives it. -/
theorem fdec_half (neg : Bool) (a : Nat) (ha : a < 2 ^ 40) : fdec neg (10 * a + 5) 1 = Ieee.double.nearest neg (2 * a + 1) (-1) := by
  have l : (10 * a + 5).log2 < 45 := (Nat.log2_lt (by omega)).2 (by omega)
  have l10 : (10 ^ 1).log2 = 3 := by decide +kernel
  exact fdec_exact neg (10 * a + 5) 1 (2 * a + 1) 1 (by omega) (by omega) (by omega) (by omega) (by omega) (by rw [l10]; omega)

theorem half_word : Ieee.double.read 4602678819172646912 = .number false 4503599627370496 (-53) := by decide +kernel

/-- The sum of a whole number and one half, the difference below nought. -/
theorem add_half (a : Nat) (ha : a < 2 ^ 40) : floatBits .add .f64 (fint false a) 4602678819172646912 = some (Ieee.double.nearest false (2 * a + 1) (-1)) := by
  have e0 : floatBits .add .f64 (fint false a) 4602678819172646912 = Ieee.double.add (Ieee.double.nearest false a 0) 4602678819172646912 := rfl
  rw [e0]
  unfold Ieee.Format.add
  rw [half_word]
  rcases Nat.eq_zero_or_pos a with rfl | h0
  · decide +kernel
  · have hk := Fl.log2_le a h0 (by omega)
    rw [Fl.read_int false a h0 (by omega)]
    have hb : min ((a.log2 : Int) - 52) (-53) = -53 := by omega
    simp only [Ieee.Datum.sum, hb, Ieee.signed, Bool.false_eq_true, if_false, Bool.and_self]
    have s1 : ((a.log2 : Int) - 52 - -53).toNat = a.log2 + 1 := by omega
    have s2 : ((-53 : Int) - -53).toNat = 0 := by omega
    rw [s1, s2, Nat.shiftLeft_eq, Nat.shiftLeft_eq]
    have t1 : a * 2 ^ (52 - a.log2) * 2 ^ (a.log2 + 1) = a * 2 ^ 53 := by rw [Nat.mul_assoc, ← Nat.pow_add]; congr 2; omega
    rw [t1]
    have t2 : ((a * 2 ^ 53 : Nat) : Int) + ((4503599627370496 * 2 ^ 0 : Nat) : Int) = (((2 * a + 1) * 2 ^ 52 : Nat) : Int) := by omega
    rw [t2]
    have t3 : ¬ ((((2 * a + 1) * 2 ^ 52 : Nat) : Int) = 0) := by omega
    have t4 : (decide ((((2 * a + 1) * 2 ^ 52 : Nat) : Int) < 0)) = false := by simp; omega
    rw [if_neg t3, t4]
    simp only [Option.map_some, Ieee.Format.write, Int.natAbs_natCast]
    have := Fl.nearest_scale Ieee.double false (2 * a + 1) 52 (-1)
    rw [← this]; rfl
theorem sub_half (a : Nat) (ha : a < 2 ^ 40) (h0 : 0 < a) : floatBits .sub .f64 (fint true a) 4602678819172646912 = some (Ieee.double.nearest true (2 * a + 1) (-1)) := by
  have e0 : floatBits .sub .f64 (fint true a) 4602678819172646912 = Ieee.double.sub (Ieee.double.nearest true a 0) 4602678819172646912 := rfl
  rw [e0]
  unfold Ieee.Format.sub
  rw [half_word]
  have hk := Fl.log2_le a h0 (by omega)
  rw [Fl.read_int true a h0 (by omega)]
  have hb : min ((a.log2 : Int) - 52) (-53) = -53 := by omega
  simp only [Ieee.Datum.opposite, Ieee.Datum.sum, hb, Ieee.signed, Bool.not_false, if_true, Bool.and_self]
  have s1 : ((a.log2 : Int) - 52 - -53).toNat = a.log2 + 1 := by omega
  have s2 : ((-53 : Int) - -53).toNat = 0 := by omega
  rw [s1, s2, Nat.shiftLeft_eq, Nat.shiftLeft_eq]
  have t1 : a * 2 ^ (52 - a.log2) * 2 ^ (a.log2 + 1) = a * 2 ^ 53 := by rw [Nat.mul_assoc, ← Nat.pow_add]; congr 2; omega
  rw [t1]
  have t2 : -((a * 2 ^ 53 : Nat) : Int) + -((4503599627370496 * 2 ^ 0 : Nat) : Int) = -(((2 * a + 1) * 2 ^ 52 : Nat) : Int) := by omega
  rw [t2]
  have t3 : ¬ (-(((2 * a + 1) * 2 ^ 52 : Nat) : Int) = 0) := by omega
  have t4 : (decide (-(((2 * a + 1) * 2 ^ 52 : Nat) : Int) < 0)) = true := by simp; omega
  rw [if_neg t3, t4]
  simp only [Option.map_some, Ieee.Format.write, Int.natAbs_neg, Int.natAbs_natCast]
  have := Fl.nearest_scale Ieee.double true (2 * a + 1) 52 (-1)
  rw [← this]; rfl
end Go.Proofs.YtodlhjdogcpffaaDoor
