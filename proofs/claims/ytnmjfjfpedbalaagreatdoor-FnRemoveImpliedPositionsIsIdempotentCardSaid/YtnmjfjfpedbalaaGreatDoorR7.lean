/- Floats that are numbers and not too great stay so under sums, products, quotients. -/
import Derived.Test.YtnmjfjfpedbalaaGreatDoorR6
namespace Go.Proofs.YtnmjfjfpedbalaaGreatDoor
open Go.RowKit Ieee
set_option linter.unusedVariables false
/-- x reads as a number below 2^(K+1). -/
def FinLe (K : Int) (x : Nat) : Prop := ∃ s S e, double.read x = .number s S e ∧ (S = 0 ∨ e + (S.log2 : Int) ≤ K)
theorem cut_le (neg : Bool) (n d : Nat) : Toward.even.cut neg n d ≤ n / 2 ^ (min d (n.log2 + 2)) + 1 := by
  unfold Toward.cut
  rw [Nat.shiftLeft_eq, Nat.one_mul]
  dsimp only
  generalize (decide (2 ^ min d (n.log2 + 2) < 2 * (n % 2 ^ min d (n.log2 + 2))) || 2 ^ min d (n.log2 + 2) == 2 * (n % 2 ^ min d (n.log2 + 2)) && n / 2 ^ min d (n.log2 + 2) % 2 == 1) = b
  cases b
  · exact Nat.le_succ _
  · exact Nat.le_refl _
theorem pow_lt53 {n a : Nat} (h : n < 2 ^ (a + 1)) (ha : a ≤ 52) : n < 2 ^ 53 := Nat.lt_of_lt_of_le h (Nat.pow_le_pow_right (by decide) (by omega))
theorem kept_le (neg : Bool) (mag : Nat) (place last : Int) (h0 : mag ≠ 0) (hl : last = max (place + (mag.log2 : Int) - 52) (-1074)) : Toward.even.cut neg (mag <<< (place - last).toNat) (last - place).toNat ≤ 2 ^ 53 := by
  have hlt : mag < 2 ^ (mag.log2 + 1) := Nat.lt_log2_self
  by_cases hp : last ≤ place
  · have e1 : (last - place).toNat = 0 := by omega
    rw [e1, Fl.cut_zero, Nat.shiftLeft_eq]
    have h1 : mag * 2 ^ (place - last).toNat < 2 ^ (mag.log2 + 1) * 2 ^ (place - last).toNat := Nat.mul_lt_mul_of_pos_right hlt (Nat.pow_pos (by decide))
    rw [← Nat.pow_add, show mag.log2 + 1 + (place - last).toNat = mag.log2 + (place - last).toNat + 1 by omega] at h1
    exact Nat.le_of_lt (pow_lt53 h1 (by omega))
  · have e1 : (place - last).toNat = 0 := by omega
    rw [e1, Nat.shiftLeft_zero]
    refine Nat.le_trans (cut_le neg mag _) ?_
    have h2 : mag / 2 ^ (min (last - place).toNat (mag.log2 + 2)) < 2 ^ 53 := by
      rw [Nat.div_lt_iff_lt_mul (Nat.pow_pos (by decide)), ← Nat.pow_add]
      exact Nat.lt_of_lt_of_le hlt (Nat.pow_le_pow_right (by decide) (by omega))
    omega
theorem log2_52 {x : Nat} (h1 : 2 ^ 52 ≤ x) (h2 : x < 2 ^ 53) : x.log2 = 52 := by
  have h0 : x ≠ 0 := by omega
  have a : 52 ≤ x.log2 := (Nat.le_log2 h0).2 h1
  have b : x.log2 < 53 := (Nat.log2_lt h0).2 h2
  omega
theorem fin_nearest (neg : Bool) (mag : Nat) (place K : Int) (hK : 0 ≤ K) (hK2 : K ≤ 900) (h : mag = 0 ∨ place + (mag.log2 : Int) ≤ K) : FinLe (K + 1) (double.nearest neg mag place) := by
  by_cases h0 : mag = 0
  · subst h0
    exact ⟨neg, 0, -1074, Fl.read_zero neg place, Or.inl rfl⟩
  have hle : place + (mag.log2 : Int) ≤ K := h.resolve_left h0
  obtain ⟨last, hl⟩ : ∃ last : Int, last = max (place + (mag.log2 : Int) - 52) (-1074) := ⟨_, rfl⟩
  have hk := kept_le neg mag place last h0 hl
  have e : double.nearest neg mag place = double.word neg ((last + 1074).toNat * 4503599627370496 + Toward.even.cut neg (mag <<< (place - last).toNat) (last - place).toNat) := by
    unfold Format.nearest
    rw [if_neg h0]
    have e2 : max (place + (mag.log2 : Int) - (double.fractionBits : Int)) double.leastPlace = last := by
      rw [hl]
      simp only [double, Format.leastPlace]
      omega
    have e3 : double.infRung = 9218868437227405312 := rfl
    have e4 : double.leastPlace = -1074 := rfl
    have e5 : double.binade = 4503599627370496 := rfl
    dsimp only
    rw [e2, e3, e4, e5, Nat.min_eq_left]
    · rw [show last - -1074 = last + 1074 by omega]
    · have : (last - -1074).toNat ≤ 1924 := by omega
      have h53 : (2 : Nat) ^ 53 = 9007199254740992 := by decide
      omega
  rw [e]
  generalize Toward.even.cut neg (mag <<< (place - last).toNat) (last - place).toNat = kept at *
  have h53 : (2 : Nat) ^ 53 = 9007199254740992 := by decide
  have h52 : (2 : Nat) ^ 52 = 4503599627370496 := by decide
  obtain ⟨R, hR⟩ : ∃ R, (last + 1074).toNat * 4503599627370496 + kept = R := ⟨_, rfl⟩
  rw [hR]
  have hl2 : (last + 1074).toNat ≤ 1924 := by omega
  obtain ⟨a1, a2⟩ := Fl.word_neg neg R (by omega)
  have e5 : double.binade = 4503599627370496 := rfl
  have e6 : double.infRung = 9218868437227405312 := rfl
  have e7 : double.leastPlace = -1074 := rfl
  unfold FinLe Format.read
  dsimp only
  rw [a1, a2, e5, e6, e7]
  by_cases hb : R < 4503599627370496
  · rw [if_pos hb]
    refine ⟨_, _, _, rfl, ?_⟩
    by_cases hz : R = 0
    · exact Or.inl hz
    · have : R.log2 < 52 := (Nat.log2_lt hz).2 (by omega)
      exact Or.inr (by omega)
  · rw [if_neg hb, if_pos (by omega)]
    refine ⟨_, _, _, rfl, Or.inr ?_⟩
    rw [log2_52 (by omega) (by omega)]
    have h1 : R / 4503599627370496 ≤ (last + 1074).toNat + 2 := by omega
    omega
theorem FinLe.mono {K L : Int} {x : Nat} (h : FinLe K x) (hl : K ≤ L) : FinLe L x := by
  obtain ⟨s, S, e, h1, h2⟩ := h
  exact ⟨s, S, e, h1, h2.imp id (fun h => by omega)⟩
theorem log2_lt_pow {n k : Nat} (h : n < 2 ^ k) (h0 : n ≠ 0) : n.log2 < k := (Nat.log2_lt h0).2 h
theorem fin_mul {K L : Int} {x y : Nat} (hx : FinLe K x) (hy : FinLe L y) (h0 : 0 ≤ K) (h1 : 0 ≤ L) (h2 : K + L ≤ 800) : ∃ q, floatBits .mul .f64 x y = some q ∧ FinLe (K + L + 2) q := by
  obtain ⟨s, S, i, a1, a2⟩ := hx
  obtain ⟨t, T, j, b1, b2⟩ := hy
  refine ⟨double.nearest (s ^^ t) (S * T) (i + j), ?_, ?_⟩
  · show Format.mul double x y = _
    unfold Format.mul
    rw [a1, b1]
    rfl
  · have := fin_nearest (s ^^ t) (S * T) (i + j) (K + L + 1) (by omega) (by omega) (by
      by_cases hS : S = 0
      · subst hS; left; simp
      by_cases hT : T = 0
      · subst hT; left; simp
      right
      have c1 : S < 2 ^ (S.log2 + 1) := Nat.lt_log2_self
      have c2 : T < 2 ^ (T.log2 + 1) := Nat.lt_log2_self
      have c3 : S * T < 2 ^ (S.log2 + 1 + (T.log2 + 1)) := by rw [Nat.pow_add]; exact Nat.mul_lt_mul'' c1 c2
      have c4 := log2_lt_pow c3 (Nat.mul_ne_zero hS hT)
      have c5 := a2.resolve_left hS
      have c6 := b2.resolve_left hT
      omega)
    exact this.mono (by omega)
theorem signed_le (s : Bool) (m up : Nat) : (signed s m up).natAbs = m * 2 ^ up := by
  unfold signed
  rw [Nat.shiftLeft_eq]
  cases s <;> simp [Int.natAbs_neg, Int.natAbs_mul, Int.natAbs_pow]
theorem mag_lt {m up k : Nat} (h : m = 0 ∨ m.log2 + up < k) : m * 2 ^ up < 2 ^ k := by
  rcases h with rfl | h
  · rw [Nat.zero_mul]; exact Nat.pow_pos (by decide)
  · have c1 : m < 2 ^ (m.log2 + 1) := Nat.lt_log2_self
    have c2 : m * 2 ^ up < 2 ^ (m.log2 + 1) * 2 ^ up := Nat.mul_lt_mul_of_pos_right c1 (Nat.pow_pos (by decide))
    rw [← Nat.pow_add] at c2
    exact Nat.lt_of_lt_of_le c2 (Nat.pow_le_pow_right (by decide) (by omega))
theorem fin_sum {K : Int} {s t : Bool} {S T : Nat} {i j : Int} (a2 : S = 0 ∨ i + (S.log2 : Int) ≤ K) (b2 : T = 0 ∨ j + (T.log2 : Int) ≤ K) (h0 : 0 ≤ K) (h2 : K ≤ 800) : ∃ q, ((Datum.number s S i).sum (Datum.number t T j)).map double.write = some q ∧ FinLe (K + 2) q := by
  refine ⟨_, rfl, ?_⟩
  dsimp only [Format.write]
  have := fin_nearest (if (signed s S (i - min i j).toNat + signed t T (j - min i j).toNat) = 0 then s && t else decide (signed s S (i - min i j).toNat + signed t T (j - min i j).toNat < 0)) (signed s S (i - min i j).toNat + signed t T (j - min i j).toNat).natAbs (min i j) (K + 1) (by omega) (by omega) (by
    obtain ⟨A, hA⟩ : ∃ A, signed s S (i - min i j).toNat = A := ⟨_, rfl⟩
    obtain ⟨B, hB⟩ : ∃ B, signed t T (j - min i j).toNat = B := ⟨_, rfl⟩
    have hA2 : A.natAbs = S * 2 ^ (i - min i j).toNat := by rw [← hA, signed_le]
    have hB2 : B.natAbs = T * 2 ^ (j - min i j).toNat := by rw [← hB, signed_le]
    rw [hA, hB]
    by_cases hz : (A + B).natAbs = 0
    · exact Or.inl hz
    right
    by_cases hk : min i j ≤ K
    · obtain ⟨k, hk2⟩ : ∃ k : Nat, (k : Int) = K + 1 - min i j := ⟨(K + 1 - min i j).toNat, by omega⟩
      have d1 : S * 2 ^ (i - min i j).toNat < 2 ^ k := mag_lt (a2.imp id (fun h => by omega))
      have d2 : T * 2 ^ (j - min i j).toNat < 2 ^ k := mag_lt (b2.imp id (fun h => by omega))
      have d3 : (A + B).natAbs < 2 ^ (k + 1) := by
        have : (2 : Nat) ^ (k + 1) = 2 ^ k * 2 := Nat.pow_succ ..
        omega
      have d4 := log2_lt_pow d3 hz
      omega
    · have e1 : S = 0 := by
        rcases a2 with h | h
        · exact h
        · omega
      have e2 : T = 0 := by
        rcases b2 with h | h
        · exact h
        · omega
      subst e1
      subst e2
      rw [Nat.zero_mul] at hA2 hB2
      omega)
  exact this.mono (by omega)
theorem fin_add {K : Int} {x y : Nat} (hx : FinLe K x) (hy : FinLe K y) (h0 : 0 ≤ K) (h2 : K ≤ 800) : ∃ q, floatBits .add .f64 x y = some q ∧ FinLe (K + 2) q := by
  obtain ⟨s, S, i, a1, a2⟩ := hx
  obtain ⟨t, T, j, b1, b2⟩ := hy
  obtain ⟨q, h, hf⟩ := fin_sum (s := s) (t := t) a2 b2 h0 h2
  refine ⟨q, ?_, hf⟩
  show Format.add double x y = _
  unfold Format.add
  rw [a1, b1]
  exact h
theorem fin_sub {K : Int} {x y : Nat} (hx : FinLe K x) (hy : FinLe K y) (h0 : 0 ≤ K) (h2 : K ≤ 800) : ∃ q, floatBits .sub .f64 x y = some q ∧ FinLe (K + 2) q := by
  obtain ⟨s, S, i, a1, a2⟩ := hx
  obtain ⟨t, T, j, b1, b2⟩ := hy
  obtain ⟨q, h, hf⟩ := fin_sum (s := s) (t := !t) a2 b2 h0 h2
  refine ⟨q, ?_, hf⟩
  show Format.sub double x y = _
  unfold Format.sub
  rw [a1, b1]
  exact h
theorem fin_int (neg : Bool) (m : Nat) (h : m < 2 ^ 53) : FinLe 54 (fint neg m) := by
  have := fin_nearest neg m 0 53 (by omega) (by omega) (by
    by_cases h0 : m = 0
    · exact Or.inl h0
    · right
      have := log2_lt_pow h h0
      omega)
  exact this
theorem fin_div {K : Int} {x : Nat} (neg : Bool) (n : Nat) (hn : 0 < n) (hn2 : n < 2 ^ 53) (hx : FinLe K x) (h0 : 0 ≤ K) (h2 : K ≤ 700) : ∃ q, floatBits .quo .f64 x (fint neg n) = some q ∧ FinLe (K + 60) q := by
  obtain ⟨s, S, i, a1, a2⟩ := hx
  have b1 := Fl.read_int neg n hn hn2
  have hT : n * 2 ^ (52 - n.log2) ≠ 0 := Nat.mul_ne_zero (by omega) (Nat.pos_iff_ne_zero.1 (Nat.pow_pos (by decide)))
  have hlg := Fl.log2_le n hn hn2
  generalize n * 2 ^ (52 - n.log2) = T at *
  obtain ⟨more, hm⟩ : ∃ more, double.fractionBits + 2 + T.log2 - S.log2 = more := ⟨_, rfl⟩
  refine ⟨double.nearest (s ^^ neg) (2 * (S <<< more / T) + (S <<< more % T != 0).toNat) (i - ((n.log2 : Int) - 52) - more - 1), ?_, ?_⟩
  · show Format.div double x (fint neg n) = _
    unfold Format.div
    rw [a1, b1]
    simp only [Datum.quotient]
    rw [if_neg hT, hm]
    rfl
  · have := fin_nearest (s ^^ neg) (2 * (S <<< more / T) + (S <<< more % T != 0).toNat) (i - ((n.log2 : Int) - 52) - more - 1) (K + 56) (by omega) (by omega) (by
      by_cases hS : S = 0
      · subst hS; left; simp
      rw [Nat.shiftLeft_eq]
      have c1 : S < 2 ^ (S.log2 + 1) := Nat.lt_log2_self
      have c2 : S * 2 ^ more < 2 ^ (S.log2 + 1) * 2 ^ more := Nat.mul_lt_mul_of_pos_right c1 (Nat.pow_pos (by decide))
      rw [← Nat.pow_add] at c2
      have c3 : S * 2 ^ more / T ≤ S * 2 ^ more := Nat.div_le_self _ _
      have c4 : (S * 2 ^ more % T != 0).toNat ≤ 1 := Bool.toNat_le _
      have c5 : (2 : Nat) ^ (S.log2 + 1 + more + 1) = 2 ^ (S.log2 + 1 + more) * 2 := Nat.pow_succ ..
      have c8 := a2.resolve_left hS
      obtain ⟨Q, hQ⟩ : ∃ Q, 2 * (S * 2 ^ more / T) + (S * 2 ^ more % T != 0).toNat = Q := ⟨_, rfl⟩
      rw [hQ]
      have c6 : Q < 2 ^ (S.log2 + 1 + more + 1) := by omega
      by_cases hQ0 : Q = 0
      · exact Or.inl hQ0
      · have c7 := log2_lt_pow c6 hQ0
        right
        omega)
    exact this.mono (by omega)
end Go.Proofs.YtnmjfjfpedbalaaGreatDoor
