/- M/100 for M of 53 bits, as parseFloat64 scales it: plain numbers. -/
import Derived.Test.YtodlhjdogcpffaaDoorUscaleL
import Derived.Test.YtodlhjdogcpffaaDoorDecSame
namespace Go.Proofs.YtodlhjdogcpffaaDoor
open Go.RowKit

/-- m/25*64 with a sticky last digit. -/
def sig25 (m : Nat) : Nat := 2 * (64 * m / 25) + (m % 25 != 0).toNat
theorem sig25_eq (m x : Nat) (h1 : 4503599627370496 ≤ m) (h2 : m < 9007199254740992) (hx : x = m * 2048) :
    uscB (x * 11805916207174113035 / 18446744073709551616) (x * 11805916207174113035 % 18446744073709551616) (x * 14019525496019259228 / 18446744073709551616) 256 = sig25 m := by
  subst hx
  obtain ⟨H, hH⟩ : ∃ H, m * 2048 * 11805916207174113035 / 18446744073709551616 = H := ⟨_, rfl⟩
  obtain ⟨M, hM⟩ : ∃ M, m * 2048 * 11805916207174113035 % 18446744073709551616 = M := ⟨_, rfl⟩
  obtain ⟨m2, hm2⟩ : ∃ m2, m * 2048 * 14019525496019259228 / 18446744073709551616 = m2 := ⟨_, rfl⟩
  rw [hH, hM, hm2]
  obtain ⟨q, hq⟩ : ∃ q, 128 * m / 25 = q := ⟨_, rfl⟩
  have hq2 : 64 * m / 25 = q / 2 := by omega
  unfold uscB sig25
  rw [hq2]
  by_cases hr : m % 25 = 0
  · have hz : (m % 25 != 0).toNat = 0 := by rw [hr]; rfl
    rw [hz]
    have a1 : H = q * 256 := by omega
    have a2 : m2 ≤ M := by omega
    have a3 : M ≤ m2 + 1 := by omega
    have a4 : (M + 18446744073709551616 - m2) % 18446744073709551616 = M - m2 := by omega
    rw [if_neg (by omega), if_neg (by omega), a4, decide_eq_false (by omega)]
    unfold stick
    rw [if_neg (by simp)]
    omega
  · have hz : (m % 25 != 0).toNat = 1 := by rw [bne_iff_ne.2 hr]; rfl
    rw [hz]
    obtain ⟨r2, hr2⟩ : ∃ r2, 128 * m = 25 * q + r2 := ⟨128 * m - 25 * q, by omega⟩
    have hr3 : 1 ≤ r2 ∧ r2 ≤ 24 := by omega
    obtain ⟨Y, hY⟩ : ∃ Y, m * 2048 * 11805916207174113035 = q * 4722366482869645213696 + Y := ⟨m * 2048 * 11805916207174113035 - q * 4722366482869645213696, by omega⟩
    have hY2 : 25 * Y = r2 * 4722366482869645213696 + 38912 * m := by omega
    have hY3 : 10 * 18446744073709551616 ≤ Y ∧ Y < 4722366482869645213696 := by omega
    have hH2 : H = q * 256 + Y / 18446744073709551616 := by rw [← hH, hY]; clear hH hM hm2 hY hY2; omega
    have hy : 10 ≤ Y / 18446744073709551616 ∧ Y / 18446744073709551616 < 256 := by clear hH hM hm2 hY hY2 hH2; omega
    generalize Y / 18446744073709551616 = y at *
    have a1 : H % 256 ≠ 0 := by clear hH hM hm2 hY hY2; omega
    have a2 : H / 256 = q := by clear hH hM hm2 hY hY2; omega
    rw [if_pos a1, a2]
    clear hH hM hm2 hY hY2 hH2 a1 a2
    unfold stick
    simp only [true_and]
    split <;> omega

/-- The nearest float of sig25 is that of m/100, as fdec says it. -/
theorem log2_53 (m : Nat) (h1 : 4503599627370496 ≤ m) (h2 : m < 9007199254740992) : m.log2 = 52 := (Nat.log2_eq_iff (by omega)).2 ⟨h1, h2⟩
theorem log2_sig (m : Nat) (h1 : 4503599627370496 ≤ m) (h2 : m < 9007199254740992) : (sig25 m).log2 = if sig25 m < 36028797018963968 then 54 else 55 := by
  have hb : 18014398509481984 ≤ sig25 m ∧ sig25 m < 72057594037927936 := by
    unfold sig25
    have := Bool.toNat_le (m % 25 != 0)
    omega
  split
  · exact (Nat.log2_eq_iff (by omega)).2 ⟨by omega, by omega⟩
  · exact (Nat.log2_eq_iff (by omega)).2 ⟨by omega, by omega⟩
/-- The division by 100. -/
theorem quo_sig (neg : Bool) (m : Nat) (h1 : 4503599627370496 ≤ m) (h2 : m < 9007199254740992) : floatBits .quo .f64 (fint neg m) (fint false 100) = some (Ieee.double.nearest neg (sig25 m) (-9)) := by
  have e0 : floatBits .quo .f64 (fint neg m) (fint false 100) = Ieee.double.div (Ieee.double.nearest neg m 0) (Ieee.double.nearest false 100 0) := rfl
  rw [e0]
  unfold Ieee.Format.div
  have l1 := log2_53 m h1 h2
  have l2 : (100 : Nat).log2 = 6 := by decide +kernel
  rw [Fl.read_int neg m (by omega) (by omega), Fl.read_int false 100 (by omega) (by omega), l1, l2]
  have g1 : (m * 2 ^ (52 - 52)).log2 = 52 := by rw [Nat.sub_self, Nat.pow_zero, Nat.mul_one]; exact l1
  have g2 : (100 * 2 ^ (52 - 6)).log2 = 52 := by decide +kernel
  have efb : Ieee.double.fractionBits = 52 := rfl
  simp only [Ieee.Datum.quotient, g1, g2, efb]
  rw [if_neg (by omega)]
  simp only [Option.map_some, Ieee.Format.write, Bool.xor_false, Nat.shiftLeft_eq, Option.some.injEq]
  have e1 : m * 2 ^ (52 - 52) * 2 ^ (52 + 2 + 52 - 52) = m * 18014398509481984 := by rw [Nat.sub_self, Nat.pow_zero, Nat.mul_one]
  have e2 : 100 * 2 ^ (52 - 6) = 7036874417766400 := by decide
  rw [e1, e2]
  have e3 : m * 18014398509481984 / 7036874417766400 = 64 * m / 25 := by omega
  have e4 : (m * 18014398509481984 % 7036874417766400 != 0) = (m % 25 != 0) := by rw [Bool.eq_iff_iff, bne_iff_ne, bne_iff_ne]; omega
  rw [e3, e4]
  rfl

/-- What parseFloat64 packs. -/
def packed (u e : Nat) : Nat :=
  let s := if 36028797018963966 ≤ u then 1 else 0
  let v := roundU (if s = 1 then stick (u / 2) (u % 2 == 1) else u)
  (v - 4503599627370496) + (1075 + s - e) * 4503599627370496

/-- The nearest word, its digits cut. -/
theorem nearest_cut (neg : Bool) (Z : Nat) (q : Int) (hZ : 52 ≤ Z.log2) (hZ0 : 0 < Z) (h1 : -1074 ≤ q + (Z.log2 : Int) - 52) (h2 : q + (Z.log2 : Int) < 900) :
    Ieee.double.nearest neg Z q = Ieee.double.word neg ((q + (Z.log2 : Int) + 1022).toNat * 4503599627370496 + Ieee.Toward.even.cut neg Z (Z.log2 - 52)) := by
  unfold Ieee.Format.nearest
  rw [if_neg (by omega : ¬ Z = 0)]
  have hl : max (q + (Z.log2 : Int) - (Ieee.double.fractionBits : Int)) Ieee.double.leastPlace = q + (Z.log2 : Int) - 52 := by
    simp only [Ieee.double, Ieee.Format.leastPlace]
    omega
  have e1 : (q - (q + (Z.log2 : Int) - 52)).toNat = 0 := by omega
  have e2 : (q + (Z.log2 : Int) - 52 - q).toNat = Z.log2 - 52 := by omega
  have e3 : (q + (Z.log2 : Int) - 52 - Ieee.double.leastPlace).toNat = (q + (Z.log2 : Int) + 1022).toNat := by simp only [Ieee.double, Ieee.Format.leastPlace]; omega
  dsimp only
  rw [hl, e1, e2, e3, Nat.shiftLeft_eq, Nat.pow_zero, Nat.mul_one]
  have hK := (cut_bounds neg Z (Z.log2 - 52) (by omega)).2
  have hQ : Z / 2 ^ (Z.log2 - 52) < 9007199254740992 := by
    have h : Z < 2 ^ (Z.log2 + 1) := Nat.lt_log2_self
    have e : 2 ^ (Z.log2 + 1) = 9007199254740992 * 2 ^ (Z.log2 - 52) := by
      have h3 : 2 ^ (53 + (Z.log2 - 52)) = 2 ^ 53 * 2 ^ (Z.log2 - 52) := Nat.pow_add ..
      have e4 : 53 + (Z.log2 - 52) = Z.log2 + 1 := by omega
      rw [e4] at h3
      exact h3
    rw [e] at h
    exact (Nat.div_lt_iff_lt_mul (Nat.two_pow_pos _)).2 h
  have e5 : Ieee.double.binade = 4503599627370496 := rfl
  have e6 : Ieee.double.infRung = 9218868437227405312 := rfl
  rw [e5, e6]
  refine congrArg _ (Nat.min_eq_left ?_)
  generalize Ieee.Toward.even.cut neg Z (Z.log2 - 52) = K at *
  generalize Z / 2 ^ (Z.log2 - 52) = D at *
  have h7 : (q + (Z.log2 : Int) + 1022).toNat ≤ 1922 := by omega
  generalize (q + (Z.log2 : Int) + 1022).toNat = Y at *
  clear e1 e2 e3 hl h1 h2
  omega

theorem packed_near (neg : Bool) (u : Nat) (e : Nat) (h1 : 18014398509481984 ≤ u) (h2 : u < 72057594037927936) (he : e ≤ 7) (he2 : 5 ≤ e) : Ieee.double.word neg (packed u e) = Ieee.double.nearest neg u (-(e : Int) - 2) := by
  rcases Nat.lt_or_ge u 36028797018963968 with h | h
  · have hl : u.log2 = 54 := (Nat.log2_eq_iff (by omega)).2 ⟨h1, h⟩
    rw [nearest_cut neg u _ (by omega) (by omega) (by omega) (by omega), hl]
    refine congrArg (Ieee.double.word neg) ?_
    have ec : Ieee.Toward.even.cut neg u (54 - 52) = roundU u := by
      unfold Ieee.Toward.cut roundU
      have g : min (54 - 52) (u.log2 + 2) = 2 := by omega
      rw [g]
      have e4 : (1 <<< 2 : Nat) = 4 := by decide
      simp only [e4]
      have hr : u % 4 = 0 ∨ u % 4 = 1 ∨ u % 4 = 2 ∨ u % 4 = 3 := by omega
      rcases hr with hr | hr | hr | hr <;> simp [hr] <;> (try (rcases Nat.mod_two_eq_zero_or_one (u / 4) with ho | ho <;> simp [ho])) <;> omega
    rw [ec]
    unfold packed
    dsimp only
    by_cases hs : 36028797018963966 ≤ u
    · have hu : roundU u = 9007199254740992 := by unfold roundU; omega
      have hv : roundU (if (if 36028797018963966 ≤ u then 1 else 0) = 1 then stick (u / 2) (u % 2 == 1) else u) = 4503599627370496 := by
        rw [if_pos (by rw [if_pos hs])]
        unfold roundU stick
        split <;> omega
      rw [hv, hu, if_pos hs]
      omega
    · rw [if_neg hs]
      have : roundU u ≤ 9007199254740991 ∧ 4503599627370496 ≤ roundU u := by unfold roundU; omega
      rw [if_neg (by omega)]
      omega
  · have hl : u.log2 = 55 := (Nat.log2_eq_iff (by omega)).2 ⟨h, h2⟩
    rw [nearest_cut neg u _ (by omega) (by omega) (by omega) (by omega), hl]
    refine congrArg (Ieee.double.word neg) ?_
    have ec : Ieee.Toward.even.cut neg u (55 - 52) = roundU (stick (u / 2) (u % 2 == 1)) := by
      unfold Ieee.Toward.cut roundU stick
      have g : min (55 - 52) (u.log2 + 2) = 3 := by omega
      rw [g]
      have e4 : (1 <<< 3 : Nat) = 8 := by decide
      simp only [e4]
      obtain ⟨a, b, hab, hb⟩ : ∃ a b, u = 8 * a + b ∧ b < 8 := ⟨u / 8, u % 8, by omega, by omega⟩
      subst hab
      clear g hl h1 h2 h
      have q1 : (8 * a + b) / 8 = a := by omega
      have q2 : (8 * a + b) % 8 = b := by omega
      rw [q1, q2]
      have hb8 : b = 0 ∨ b = 1 ∨ b = 2 ∨ b = 3 ∨ b = 4 ∨ b = 5 ∨ b = 6 ∨ b = 7 := by omega
      rcases hb8 with rfl | rfl | rfl | rfl | rfl | rfl | rfl | rfl <;> simp <;> (try (rcases Nat.mod_two_eq_zero_or_one a with ho | ho <;> simp [ho])) <;> (try (split)) <;> omega
    rw [ec]
    unfold packed
    dsimp only
    have hs : 36028797018963966 ≤ u := by omega
    rw [if_pos hs, if_pos rfl]
    have : 4503599627370496 ≤ roundU (stick (u / 2) (u % 2 == 1)) := by unfold roundU stick; split <;> omega
    omega
end Go.Proofs.YtodlhjdogcpffaaDoor
