/- int(math.Round(v)) of a float v between 1 and 2^52: the whole number nearest, halves away from nought. -/
import Derived.Test.YtodlhjdogcpffaaDoorFl
import Derived.Laws.FloatArith
namespace Go.Proofs.YtodlhjdogcpffaaDoor


theorem trunc_word (neg : Bool) (R E S n : Nat) (hE : R / 4503599627370496 = E) (hF : R % 4503599627370496 + 4503599627370496 = S) (h1 : 1023 ≤ E) (h2 : E ≤ 1075) (hn : S = n * 2 ^ (1075 - E)) :
    floatToIntVal .f64 (Ieee.double.word neg R) .i64 = some (if neg then -(n : Int) else n) := by
  have hR : R < 2 ^ 63 := by omega
  obtain ⟨a1, a2⟩ := Fl.word_neg neg R hR
  have e5 : Ieee.double.binade = 4503599627370496 := rfl
  have e6 : Ieee.double.infRung = 2047 * 4503599627370496 := rfl
  have e7 : Ieee.double.leastPlace = -1074 := rfl
  have hread : Ieee.double.read (Ieee.double.word neg R) = .number neg S ((E : Int) - 1075) := by
    unfold Ieee.Format.read
    dsimp only
    rw [a1, a2, e5, e6, e7, if_neg (by omega), if_pos (by omega), hE]
    have b1 : 4503599627370496 + R % 4503599627370496 = S := by omega
    have b2 : (-1074 : Int) + ((E - 1 : Nat) : Int) = (E : Int) - 1075 := by omega
    rw [b1, b2]
  have hnS : n ≤ S := by rw [hn]; exact Nat.le_mul_of_pos_right _ (Nat.two_pow_pos _)
  have hn0 : 0 < n := by
    rcases Nat.eq_zero_or_pos n with rfl | h
    · omega
    · exact h
  have hint : (Ieee.double.read (Ieee.double.word neg R)).toInt .zero = some (if neg then -(n : Int) else n) := by
    rw [hread]
    unfold Ieee.Datum.toInt Ieee.Datum.integral
    dsimp only
    have c1 : ((E : Int) - 1075).toNat = 0 := by omega
    have c2 : (-((E : Int) - 1075)).toNat = 1075 - E := by omega
    rw [c1, c2, Nat.shiftLeft_eq, Nat.pow_zero, Nat.mul_one]
    have c3 : Ieee.Toward.zero.cut neg S (1075 - E) = n := by
      unfold Ieee.Toward.cut
      have hp : 0 < 2 ^ (1075 - E) := Nat.two_pow_pos _
      rw [hn, Fl.log2_mul_pow n _ hn0, Nat.min_eq_left (by omega), Nat.shiftLeft_eq, Nat.one_mul]
      simp [Nat.mul_div_cancel _ hp]
    rw [c3]
    simp [Ieee.signed, Nat.shiftLeft_zero]
  unfold floatToIntVal
  have e : FloatKind.f64.decode (Ieee.double.word neg R) = Ieee.double.read (Ieee.double.word neg R) := rfl
  rw [e, hint]
  have m1 : IntKind.i64.min = -9223372036854775808 := by decide
  have m2 : IntKind.i64.max = 9223372036854775807 := by decide
  dsimp only
  rw [m1, m2, if_pos]
  cases neg
  · simp; omega
  · simp; omega

theorem round_trunc (neg : Bool) (R E S j n : Nat) (hE : R / 4503599627370496 = E) (hF : R % 4503599627370496 + 4503599627370496 = S) (h1 : 1023 ≤ E) (h2 : E < 1075) (hj : j + E = 1075) (hn : n = (S + 2 ^ (j - 1)) / 2 ^ j) :
    floatToIntVal .f64 (Ieee.double.word neg ((R + 2 ^ (j - 1)) / 2 ^ j * 2 ^ j)) .i64 = some (if neg then -(n : Int) else n) := by
  have hP : 2 ^ j = 2 * 2 ^ (j - 1) := by
    have h : 2 ^ (j - 1 + 1) = 2 ^ (j - 1) * 2 := Nat.pow_succ ..
    have e : j - 1 + 1 = j := by omega
    rw [e] at h
    omega
  have hQ : (4503599627370496 : Nat) = 2 ^ j * 2 ^ (52 - j) := by
    have e : j + (52 - j) = 52 := by omega
    have h : 2 ^ (j + (52 - j)) = 2 ^ j * 2 ^ (52 - j) := Nat.pow_add ..
    rw [e] at h
    exact h
  have hp0 : 0 < 2 ^ (j - 1) := Nat.two_pow_pos _
  have hpj : 0 < 2 ^ j := Nat.two_pow_pos _
  have hRS : R = (E - 1) * 4503599627370496 + S := by omega
  have hdiv : (R + 2 ^ (j - 1)) / 2 ^ j = (E - 1) * 2 ^ (52 - j) + n := by
    have : R + 2 ^ (j - 1) = (S + 2 ^ (j - 1)) + 2 ^ j * ((E - 1) * 2 ^ (52 - j)) := by
      have e : (E - 1) * 4503599627370496 = 2 ^ j * ((E - 1) * 2 ^ (52 - j)) := by rw [hQ]; ac_rfl
      rw [hRS, e, Nat.add_assoc, Nat.add_comm]
    rw [this, Nat.add_mul_div_left _ _ hpj, ← hn, Nat.add_comm]
  have hR' : (R + 2 ^ (j - 1)) / 2 ^ j * 2 ^ j = (E - 1) * 4503599627370496 + n * 2 ^ j := by
    rw [hdiv, Nat.add_mul]
    have : (E - 1) * 2 ^ (52 - j) * 2 ^ j = (E - 1) * 4503599627370496 := by rw [hQ]; ac_rfl
    rw [this]
  have hlo : 4503599627370496 ≤ n * 2 ^ j := by
    have : 2 ^ (52 - j) ≤ n := by
      rw [hn]
      apply (Nat.le_div_iff_mul_le hpj).2
      have := Nat.mul_comm (2 ^ (52 - j)) (2 ^ j)
      omega
    have := Nat.mul_le_mul_right (2 ^ j) this
    have := Nat.mul_comm (2 ^ (52 - j)) (2 ^ j)
    omega
  have hhi : n * 2 ^ j ≤ 9007199254740992 := by
    have : n ≤ 2 * 2 ^ (52 - j) := by
      have : n < 2 * 2 ^ (52 - j) + 1 := by
        rw [hn]
        apply (Nat.div_lt_iff_lt_mul hpj).2
        have e1 : (2 * 2 ^ (52 - j) + 1) * 2 ^ j = 2 * (2 ^ j * 2 ^ (52 - j)) + 2 ^ j := by rw [Nat.add_mul, Nat.one_mul]; congr 1; ac_rfl
        rw [e1, ← hQ]
        omega
      omega
    have h3 := Nat.mul_le_mul_right (2 ^ j) this
    have e1 : 2 * 2 ^ (52 - j) * 2 ^ j = 2 * (2 ^ j * 2 ^ (52 - j)) := by ac_rfl
    rw [e1, ← hQ] at h3
    omega
  rw [hR']
  rcases Nat.lt_or_ge (n * 2 ^ j) 9007199254740992 with hlt | hge
  · have e1 : 1075 - E = j := by omega
    exact trunc_word neg _ E (n * 2 ^ j) n (by omega) (by omega) h1 (by omega) (by rw [e1])
  · have e1 : 1075 - (E + 1) = j - 1 := by omega
    have e2 : n * 2 ^ j = 2 * (n * 2 ^ (j - 1)) := by rw [hP]; ac_rfl
    exact trunc_word neg _ (E + 1) 4503599627370496 n (by omega) (by omega) (by omega) (by omega) (by rw [e1]; omega)

theorem cut_bounds (neg : Bool) (Z d : Nat) (hd : d ≤ Z.log2 + 2) : Z / 2 ^ d ≤ Ieee.Toward.even.cut neg Z d ∧ Ieee.Toward.even.cut neg Z d ≤ Z / 2 ^ d + 1 := by
  unfold Ieee.Toward.cut
  rw [Nat.min_eq_left hd, Nat.shiftLeft_eq, Nat.one_mul]
  dsimp only
  generalize (decide (2 ^ d < 2 * (Z % 2 ^ d)) || 2 ^ d == 2 * (Z % 2 ^ d) && Z / 2 ^ d % 2 == 1) = b
  cases b
  · exact ⟨Nat.le_refl _, Nat.le_succ _⟩
  · exact ⟨Nat.le_succ _, Nat.le_refl _⟩

/-- A number of 53 digits or more: the word's rung, but for the last digit. -/
theorem nearest_big (neg : Bool) (Z : Nat) (q : Int) (hZ : 52 ≤ Z.log2) (hZ0 : 0 < Z) (h1 : -1074 ≤ q + (Z.log2 : Int) - 52) (h2 : q + (Z.log2 : Int) < 900) :
    ∃ K, Ieee.double.nearest neg Z q = Ieee.double.word neg ((q + (Z.log2 : Int) + 1022).toNat * 4503599627370496 + K) ∧ Z / 2 ^ (Z.log2 - 52) ≤ K ∧ K ≤ Z / 2 ^ (Z.log2 - 52) + 1 := by
  refine ⟨Ieee.Toward.even.cut neg Z (Z.log2 - 52), ?_, cut_bounds neg Z _ (by omega)⟩
  unfold Ieee.Format.nearest
  rw [if_neg (by omega : ¬ Z = 0)]
  have hl : max (q + (Z.log2 : Int) - (Ieee.double.fractionBits : Int)) Ieee.double.leastPlace = q + (Z.log2 : Int) - 52 := by
    simp only [Ieee.double, Ieee.Format.leastPlace]
    omega
  have e1 : (q - (q + (Z.log2 : Int) - 52)).toNat = 0 := by omega
  have e2 : (q + (Z.log2 : Int) - 52 - q).toNat = Z.log2 - 52 := by omega
  have e3 : (q + (Z.log2 : Int) - 52 - Ieee.double.leastPlace).toNat = (q + (Z.log2 : Int) + 1022).toNat := by simp only [Ieee.double, Ieee.Format.leastPlace]; omega
  dsimp only
  rw [hl, e1, e2, e3, Nat.shiftLeft_eq, Nat.pow_zero, Nat.mul_one]
  have hK := (cut_bounds neg Z (Z.log2 - 52) (by omega)).2
  have hQ : Z / 2 ^ (Z.log2 - 52) < 9007199254740992 := by
    have h : Z < 2 ^ (Z.log2 + 1) := Nat.lt_log2_self
    have e : 2 ^ (Z.log2 + 1) = 9007199254740992 * 2 ^ (Z.log2 - 52) := by
      have h3 : 2 ^ (53 + (Z.log2 - 52)) = 2 ^ 53 * 2 ^ (Z.log2 - 52) := Nat.pow_add ..
      have e4 : 53 + (Z.log2 - 52) = Z.log2 + 1 := by omega
      rw [e4] at h3
      exact h3
    rw [e] at h
    exact (Nat.div_lt_iff_lt_mul (Nat.two_pow_pos _)).2 h
  have e5 : Ieee.double.binade = 4503599627370496 := rfl
  have e6 : Ieee.double.infRung = 9218868437227405312 := rfl
  rw [e5, e6]
  refine congrArg _ (Nat.min_eq_left ?_)
  generalize Ieee.Toward.even.cut neg Z (Z.log2 - 52) = K at *
  generalize Z / 2 ^ (Z.log2 - 52) = D at *
  have h7 : (q + (Z.log2 : Int) + 1022).toNat ≤ 1922 := by omega
  generalize (q + (Z.log2 : Int) + 1022).toNat = Y at *
  clear e1 e2 e3 hl h1 h2
  omega
end Go.Proofs.YtodlhjdogcpffaaDoor
