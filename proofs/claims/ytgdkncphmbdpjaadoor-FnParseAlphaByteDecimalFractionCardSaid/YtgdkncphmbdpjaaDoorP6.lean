/- Law 6's numbers: whole percents. -/
import Derived.Test.YtgdkncphmbdpjaaDoorRound
import Derived.Test.YtgdkncphmbdpjaaDoorRoundInt
namespace Go.Proofs.YtgdkncphmbdpjaaDoor
open Go.RowKit

/-- int(math.Round(f * 2.55)). -/
def percInt (b : Nat) : Option Int := (floatBits .mul .f64 b 4612924508324914790).bind fun r => floatToIntVal .f64 (roundBits r) .i64
def percOk (p : Nat) : Bool := match percInt (fint false p) with
  | some n => n == (255 * p / 100 : Nat) && (255 * p % 100 ≤ 50 : Bool) || n == (255 * p / 100 + 1 : Nat) && (50 ≤ 255 * p % 100 : Bool)
  | none => false
theorem perc_small : ∀ p : Fin 101, percOk p.val = true := by decide +kernel
theorem roundBits_word (neg : Bool) (R E j : Nat) (hE : R / 4503599627370496 = E) (h1 : 1023 ≤ E) (h2 : E < 1075) (hj : j + E = 1075) : roundBits (Ieee.double.word neg R) = Ieee.double.word neg ((R + 2 ^ (j - 1)) / 2 ^ j * 2 ^ j) := by
  have hw : ∀ X, ∃ T, Ieee.double.word neg X = T * 9223372036854775808 + X ∧ T = neg.toNat := fun X => by
    have es : Ieee.double.signWeight = 9223372036854775808 := rfl
    unfold Ieee.Format.word
    rw [es]
    cases neg
    · exact ⟨0, by simp, rfl⟩
    · exact ⟨1, by simp, rfl⟩
  obtain ⟨T, hT, hTn⟩ := hw R
  obtain ⟨T2, hT2, hTn2⟩ := hw ((R + 2 ^ (j - 1)) / 2 ^ j * 2 ^ j)
  have hT1 : T ≤ 1 := by cases neg <;> simp_all
  rw [hT2, hTn2, ← hTn]
  generalize Ieee.double.word neg R = b at hT
  have he : b / 4503599627370496 % 2048 = E := by omega
  unfold roundBits
  rw [he, if_neg (by omega), if_pos h2]
  have e1 : E - 1023 = 52 - j := by omega
  have hj1 : 1 ≤ j := by omega
  have hj2 : j ≤ 52 := by omega
  have e2 : (2251799813685248 : Int) / 2 ^ (52 - j) = ((2 ^ (j - 1) : Nat) : Int) := by
    have : (2251799813685248 : Nat) / 2 ^ (52 - j) = 2 ^ (j - 1) := by
      have : (2251799813685248 : Nat) = 2 ^ (j - 1) * 2 ^ (52 - j) := pow_split (j - 1) (52 - j) 51 (by omega)
      rw [this, Nat.mul_div_cancel _ (Nat.two_pow_pos _)]
    rw [← this]; simp
  have hq : (4503599627370496 : Nat) = 2 ^ j * 2 ^ (52 - j) := pow_split j (52 - j) 52 (by omega)
  have e3 : (4503599627370495 : Int) / 2 ^ (52 - j) = ((2 ^ j - 1 : Nat) : Int) := by
    have : (4503599627370495 : Nat) / 2 ^ (52 - j) = 2 ^ j - 1 := by
      have hp : 0 < 2 ^ (52 - j) := Nat.two_pow_pos _
      have hq2 : 0 < 2 ^ j := Nat.two_pow_pos _
      have : (4503599627370495 : Nat) = (2 ^ (52 - j) - 1) + 2 ^ (52 - j) * (2 ^ j - 1) := by
        rw [Nat.mul_sub, Nat.mul_one, Nat.mul_comm (2 ^ (52 - j)), ← hq]
        have : 2 ^ (52 - j) ≤ 2 ^ 52 := Nat.pow_le_pow_right (by omega) (by omega)
        omega
      rw [this, Nat.add_mul_div_left _ _ hp, Nat.div_eq_of_lt (by omega)]
      omega
    rw [← this]; simp
  rw [e1, e2, e3]
  have hp51 : 2 ^ (j - 1) ≤ 2 ^ 51 := Nat.pow_le_pow_right (by omega) (by omega)
  have hwr : IntKind.u64.wrap ((b : Int) + ((2 ^ (j - 1) : Nat) : Int)) = ((b + 2 ^ (j - 1) : Nat) : Int) := by
    have aux : ∀ Y : Nat, Y ≤ 2251799813685248 → IntKind.u64.wrap ((b : Int) + (Y : Int)) = ((b + Y : Nat) : Int) := fun Y hY => by
      rw [IntKind.wrap_u64]; omega
    exact aux _ hp51
  rw [hwr, andNot_low _ _ (by omega) (by omega)]
  have hT63 : T * 9223372036854775808 = 2 ^ j * (T * 2 ^ (63 - j)) := by
    have : (9223372036854775808 : Nat) = 2 ^ j * 2 ^ (63 - j) := pow_split j (63 - j) 63 (by omega)
    rw [this]; ac_rfl
  have hb : b + 2 ^ (j - 1) = (R + 2 ^ (j - 1)) + 2 ^ j * (T * 2 ^ (63 - j)) := by
    rw [hT, hT63, Nat.add_assoc, Nat.add_comm]
  rw [hb, Nat.add_mul_div_left _ _ (Nat.two_pow_pos _), Nat.add_mul, hT63, Nat.mul_comm (2 ^ j) (T * 2 ^ (63 - j)), Nat.add_comm]

theorem perc_mul (neg : Bool) (m : Nat) (h0 : 0 < m) (h : m < 2 ^ 53) : floatBits .mul .f64 (fint neg m) 4612924508324914790 = some (Ieee.double.nearest neg (m * 5742089524897382) (-51)) := by
  have hc : Ieee.double.read 4612924508324914790 = .number false 5742089524897382 (-51) := by decide +kernel
  have e0 : floatBits .mul .f64 (fint neg m) 4612924508324914790 = Ieee.double.mul (Ieee.double.nearest neg m 0) 4612924508324914790 := rfl
  rw [e0]
  unfold Ieee.Format.mul
  have hk := Fl.log2_le m h0 h
  rw [Fl.read_int neg m h0 h, hc]
  simp only [Ieee.Datum.product, Option.map_some, Ieee.Format.write, Bool.xor_false]
  have e1 : m * 2 ^ (52 - m.log2) * 5742089524897382 = m * 5742089524897382 * 2 ^ (52 - m.log2) := by ac_rfl
  have e2 : (m.log2 : Int) - 52 + -51 = -51 - ((52 - m.log2 : Nat) : Int) := by omega
  rw [e1, e2, Fl.nearest_scale]

theorem perc_any (neg : Bool) (m : Nat) (h0 : 0 < m) (h : m ≤ 2147483648) : ∃ n : Nat, percInt (fint neg m) = some (if neg then -(n : Int) else n) ∧ (100 ≤ m → 255 ≤ n) := by
  unfold percInt
  rw [perc_mul neg m h0 (by omega)]
  obtain ⟨Z, hZ⟩ : ∃ Z, m * 5742089524897382 = Z := ⟨_, rfl⟩
  rw [hZ]
  have hZ0 : Z ≠ 0 := by omega
  have hL1 : 52 ≤ Z.log2 := (Nat.le_log2 hZ0).2 (by omega)
  have hL2 : Z.log2 < 85 := (Nat.log2_lt hZ0).2 (by omega)
  have hL3 : 100 ≤ m → 58 ≤ Z.log2 := fun hm => (Nat.le_log2 hZ0).2 (by omega)
  obtain ⟨K, hK, hK1, hK2⟩ := nearest_big neg Z (-51) hL1 (by omega) (by omega) (by omega)
  have hlo : 2 ^ Z.log2 ≤ Z := Nat.log2_self_le hZ0
  have hhi : Z < 2 ^ (Z.log2 + 1) := Nat.lt_log2_self
  have hY : (-51 + (Z.log2 : Int) + 1022).toNat = Z.log2 + 971 := by omega
  rw [hY] at hK
  generalize Z.log2 = L at *
  have s1 : 2 ^ L = 4503599627370496 * 2 ^ (L - 52) := pow_split 52 (L - 52) L (by omega)
  have s2 : 2 ^ (L + 1) = 9007199254740992 * 2 ^ (L - 52) := pow_split 53 (L - 52) (L + 1) (by omega)
  rw [s1] at hlo
  rw [s2] at hhi
  have d1 : 4503599627370496 ≤ Z / 2 ^ (L - 52) := (Nat.le_div_iff_mul_le (Nat.two_pow_pos _)).2 hlo
  have d2 : Z / 2 ^ (L - 52) < 9007199254740992 := (Nat.div_lt_iff_lt_mul (Nat.two_pow_pos _)).2 hhi
  rw [hK]
  simp only [Option.bind_some]
  rcases Nat.lt_or_ge K 9007199254740992 with hlt | hge
  · refine ⟨(K + 2 ^ (103 - L - 1)) / 2 ^ (103 - L), ?_, fun hm => ?_⟩
    · rw [roundBits_word neg _ (L + 972) (103 - L) (by omega) (by omega) (by omega) (by omega)]
      exact round_trunc neg _ (L + 972) K (103 - L) _ (by omega) (by omega) (by omega) (by omega) (by omega) rfl
    · apply (Nat.le_div_iff_mul_le (Nat.two_pow_pos _)).2
      have e1 : 2 ^ (103 - L) = 2 * 2 ^ (103 - L - 1) := pow_split 1 (103 - L - 1) (103 - L) (by omega)
      have e2 : 2 ^ 50 = 2 ^ (103 - L - 1) * 2 ^ (L - 52) := pow_split (103 - L - 1) (L - 52) 50 (by omega)
      have e3 : Z < (K + 1) * 2 ^ (L - 52) := by
        have h1 : Z < (Z / 2 ^ (L - 52) + 1) * 2 ^ (L - 52) := by
          have := Nat.lt_mul_div_succ Z (Nat.two_pow_pos (L - 52))
          rw [Nat.mul_comm] at this; exact this
        exact Nat.lt_of_lt_of_le h1 (Nat.mul_le_mul_right _ (by omega))
      rcases Nat.lt_or_ge K (509 * 2 ^ (103 - L - 1)) with h4 | h4
      · have h5 : (K + 1) * 2 ^ (L - 52) ≤ 509 * 2 ^ (103 - L - 1) * 2 ^ (L - 52) := Nat.mul_le_mul_right _ (by omega)
        rw [Nat.mul_assoc, ← e2] at h5
        omega
      · rw [e1]; omega
  · have hKe : K = 9007199254740992 := by omega
    subst hKe
    refine ⟨(4503599627370496 + 2 ^ (102 - L - 1)) / 2 ^ (102 - L), ?_, fun hm => ?_⟩
    · rw [roundBits_word neg _ (L + 973) (102 - L) (by omega) (by omega) (by omega) (by omega)]
      exact round_trunc neg _ (L + 973) 4503599627370496 (102 - L) _ (by omega) (by omega) (by omega) (by omega) (by omega) rfl
    · apply (Nat.le_div_iff_mul_le (Nat.two_pow_pos _)).2
      have e1 : 2 ^ (102 - L) = 2 * 2 ^ (102 - L - 1) := pow_split 1 (102 - L - 1) (102 - L) (by omega)
      have := hL3 hm
      have e2 : 2 ^ (102 - L - 1) ≤ 2 ^ 43 := Nat.pow_le_pow_right (by omega) (by omega)
      rw [e1]
      omega
end Go.Proofs.YtgdkncphmbdpjaaDoor
