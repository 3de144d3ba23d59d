/- What fixedWidthFloat makes of the fields of m/10^k: it rounds to m. Plain numbers. -/
import Derived.Test.YtodlhjdogcpffaaDoorFmtNum
namespace Go.Proofs.YtodlhjdogcpffaaDoor
open Go.RowKit

/-- a with its last digit set where b. -/
def stick (a : Nat) (b : Bool) : Nat := if b = true ∧ a % 2 = 0 then a + 1 else a
theorem or_one (a : Nat) : a ||| 1 = stick a true := by
  have h : ∀ c, 2 * c + 1 = 2 * c ||| 1 := fun c => by
    have := Nat.two_pow_add_eq_or_of_lt (i := 1) (by decide : 1 < 2 ^ 1) c
    simpa using this
  unfold stick
  rcases Nat.mod_two_eq_zero_or_one a with h2 | h2
  · obtain ⟨b, rfl⟩ : ∃ b, a = 2 * b := ⟨a / 2, by omega⟩
    rw [if_pos ⟨rfl, h2⟩, h]
  · obtain ⟨b, rfl⟩ : ∃ b, a = 2 * b + 1 := ⟨a / 2, by omega⟩
    rw [if_neg (by omega)]
    conv => lhs; rw [h b]
    rw [Nat.or_assoc, Nat.or_self, ← h b]
theorem or_bool (a : Nat) (b : Bool) : a ||| b.toNat = stick a b := by
  cases b
  · simp [stick]
  · exact or_one a

def roundU (u : Nat) : Nat := (u + 1 + u / 4 % 2) / 4
def divU (u : Nat) : Nat := stick (stick (u / 10) (u % 2 == 1)) (u % 10 != 0)
/-- The scaled number with a sticky last digit. -/
def scaled (U G : Nat) : Nat := stick (U / G) (U % G != 0)

theorem scaled_cases (U G m B : Nat) (hG : 0 < G) (hB : B < G) (hm : 0 < m) (h1 : m * G ≤ U + B) (h2 : U ≤ m * G + B) :
    (U / G = m - 1 ∧ (U % G != 0) = true) ∨ U / G = m := by
  have a1 : (m - 1) * G ≤ U := by
    have : (m - 1) * G + G = m * G := by rw [← Nat.succ_mul]; congr 1; omega
    omega
  have a2 : U < (m + 1) * G := by rw [Nat.succ_mul]; omega
  have b1 : m - 1 ≤ U / G := (Nat.le_div_iff_mul_le hG).2 a1
  have b2 : U / G < m + 1 := (Nat.div_lt_iff_lt_mul hG).2 a2
  rcases Nat.lt_or_ge (U / G) m with h | h
  · left
    refine ⟨by omega, ?_⟩
    rw [bne_iff_ne]
    intro h3
    have h4 := Nat.div_add_mod U G
    have h5 : U / G = m - 1 := by omega
    rw [h3, h5, Nat.add_zero] at h4
    have : (m - 1) * G + G = m * G := by rw [← Nat.succ_mul]; congr 1; omega
    have : G * (m - 1) = (m - 1) * G := Nat.mul_comm _ _
    omega
  · right; omega

theorem round_same (U G m B : Nat) (hG : 0 < G) (hB : B < G) (hm : 0 < m) (h1 : 4 * m * G ≤ U + B) (h2 : U ≤ 4 * m * G + B) : roundU (scaled U G) = m ∧ scaled U G ≤ 4 * m + 1 := by
  unfold scaled roundU stick
  rcases scaled_cases U G (4 * m) B hG hB (by omega) h1 h2 with ⟨a, b⟩ | a
  · rw [a, b]
    rw [if_neg (by omega)]
    omega
  · rw [a]
    generalize (U % G != 0) = b
    cases b
    · rw [if_neg (by simp)]; omega
    · rw [if_pos ⟨rfl, by omega⟩]; omega
theorem round_div (U G m B : Nat) (hG : 0 < G) (hB : B < G) (hm : 0 < m) (h1 : 40 * m * G ≤ U + B) (h2 : U ≤ 40 * m * G + B) : roundU (divU (scaled U G)) = m := by
  unfold scaled divU roundU
  rcases scaled_cases U G (40 * m) B hG hB (by omega) h1 h2 with ⟨a, b⟩ | a
  · rw [a, b]
    have e : stick (40 * m - 1) true = 40 * m - 1 := by unfold stick; rw [if_neg (by omega)]
    rw [e]
    have e2 : (40 * m - 1) / 10 = 4 * m - 1 := by omega
    rw [e2]
    have e3 : ∀ b, stick (4 * m - 1) b = 4 * m - 1 := fun b => by unfold stick; rw [if_neg (by omega)]
    rw [e3, e3]
    omega
  · rw [a]
    generalize (U % G != 0) = b
    have e : stick (40 * m) b = 40 * m ∨ stick (40 * m) b = 40 * m + 1 := by unfold stick; split <;> omega
    have e3 : ∀ b, stick (4 * m) b = 4 * m ∨ stick (4 * m) b = 4 * m + 1 := fun b => by unfold stick; split <;> omega
    have e4 : ∀ b, stick (4 * m + 1) b = 4 * m + 1 := fun b => by unfold stick; rw [if_neg (by omega)]
    have e5 : (stick (40 * m) b) / 10 = 4 * m := by omega
    rw [e5]
    generalize (stick (40 * m) b % 2 == 1) = b1
    generalize (stick (40 * m) b % 10 != 0) = b2
    rcases e3 b1 with h | h
    · rw [h]; rcases e3 b2 with h | h <;> rw [h] <;> omega
    · rw [h, e4]; omega

/-! The table: how many digits, which power of ten. -/
def lg10 (x : Int) : Int := x * 78913 / 262144
def lg2 (p : Nat) : Nat := p * 108853 / 32768
def digitsN (t k : Nat) : Int := if t ≤ 52 then 1 + lg10 (53 - t) + k else 1 + k - lg10 (t - 52)
def placeP (t k : Nat) : Int := digitsN t k - 1 - lg10 (52 - t)
def okFix (t k : Nat) : Bool :=
  ((placeP t k == (k : Int) && decide (t ≤ 52) && decide (2 ^ (53 - t) * 10 ^ k < 10 ^ (digitsN t k).toNat)) || placeP t k == ((k + 1 : Nat) : Int)) && decide (1 ≤ digitsN t k) && decide (digitsN t k ≤ 18) &&
  decide (lg2 (placeP t k).toNat ≤ 8 + t) && decide (8 + t ≤ 63 + lg2 (placeP t k).toNat)
theorem fix_table : (∀ i : Fin 41, okFix (16 + i.val) 1 = true) ∧ (∀ i : Fin 44, okFix (16 + i.val) 2 = true) ∧ (∀ i : Fin 47, okFix (16 + i.val) 3 = true) ∧ (∀ i : Fin 51, okFix (16 + i.val) 4 = true) := by decide +kernel

theorem range_t (S m t k : Nat) (hS : 4503599627370496 ≤ S) (hS2 : S < 9007199254740992) (hk : 0 < k) (hk2 : k ≤ 4) (hm : 0 < m) (hm2 : m ≤ 1099511627776) (h1 : S * 10 ^ k ≤ m * 2 ^ t + 10 ^ k) (h2 : m * 2 ^ t ≤ S * 10 ^ k + 10 ^ k) :
    16 ≤ t ∧ okFix t k = true ∧ 10 ^ (k + 1) < 2 ^ (t - 2) := by
  obtain ⟨q1, q2, q3, q4⟩ := fix_table
  have lo : 10 ^ k * 2 ^ 9 ≤ 2 ^ (t - 2) ∧ 16 ≤ t := by
    have a1 : 4503599627370495 * 10 ^ k ≤ m * 2 ^ t := by
      have : 4503599627370496 * 10 ^ k ≤ S * 10 ^ k := Nat.mul_le_mul_right _ hS
      omega
    have a2 : m * 2 ^ t ≤ 1099511627776 * 2 ^ t := Nat.mul_le_mul_right _ hm2
    have hk10 : 10 ≤ 10 ^ k := by
      have : 10 ^ 1 ≤ 10 ^ k := Nat.pow_le_pow_right (by omega) hk
      omega
    have h16 : 16 ≤ t := by
      rcases Nat.lt_or_ge t 16 with h | h
      · have : 2 ^ t ≤ 2 ^ 15 := Nat.pow_le_pow_right (by omega) (by omega)
        omega
      · exact h
    have e : 2 ^ t = 2 ^ 2 * 2 ^ (t - 2) := psplit 2 (t - 2) t (by omega)
    rw [e, Nat.mul_left_comm] at a1 a2
    refine ⟨?_, h16⟩
    omega
  obtain ⟨lo, h16⟩ := lo
  have hi : m * 2 ^ t ≤ 9007199254740992 * 10 ^ k := by
    have : S * 10 ^ k ≤ 9007199254740991 * 10 ^ k := Nat.mul_le_mul_right _ (by omega)
    omega
  have hi2 : 2 ^ t ≤ 9007199254740992 * 10 ^ k := Nat.le_trans (Nat.le_mul_of_pos_left _ hm) hi
  refine ⟨h16, ?_, ?_⟩
  · have lim : ∀ b, 9007199254740992 * 10 ^ k < 2 ^ b → t < b := fun b hb => by
      rcases Nat.lt_or_ge t b with h | h
      · exact h
      · have : 2 ^ b ≤ 2 ^ t := Nat.pow_le_pow_right (by omega) h
        omega
    have e : t = 16 + (t - 16) := by omega
    have hk4 : k = 1 ∨ k = 2 ∨ k = 3 ∨ k = 4 := by omega
    rcases hk4 with rfl | rfl | rfl | rfl
    · have := lim 57 (by decide)
      rw [e]; exact q1 ⟨t - 16, by omega⟩
    · have := lim 60 (by decide)
      rw [e]; exact q2 ⟨t - 16, by omega⟩
    · have := lim 63 (by decide)
      rw [e]; exact q3 ⟨t - 16, by omega⟩
    · have := lim 67 (by decide)
      rw [e]; exact q4 ⟨t - 16, by omega⟩
  · have : 10 ^ (k + 1) = 10 ^ k * 10 := Nat.pow_succ ..
    have : 0 < 10 ^ k := Nat.pow_pos (by omega)
    omega
/-- The two ways of fixedWidthFloat at the fields of m/10^k. -/
theorem fix_round (S m t k : Nat) (hS : 4503599627370496 ≤ S) (hS2 : S < 9007199254740992) (hk : 0 < k) (hk2 : k ≤ 4) (hm : 0 < m) (hm2 : m ≤ 1099511627776) (h1 : S * 10 ^ k ≤ m * 2 ^ t + 10 ^ k) (h2 : m * 2 ^ t ≤ S * 10 ^ k + 10 ^ k) :
    16 ≤ t ∧ t ≤ 66 ∧ ∃ p n : Nat, placeP t k = p ∧ digitsN t k = n ∧ 1 ≤ n ∧ n ≤ 18 ∧ p ≤ 5 ∧ 1 ≤ p ∧ lg2 p ≤ 8 + t ∧ 8 + t ≤ 63 + lg2 p ∧
      ((p = k ∧ roundU (scaled (S * 10 ^ p) (2 ^ (t - 2))) = m ∧ scaled (S * 10 ^ p) (2 ^ (t - 2)) < 4 * 10 ^ n - 2) ∨ (p = k + 1 ∧ roundU (divU (scaled (S * 10 ^ p) (2 ^ (t - 2)))) = m)) := by
  obtain ⟨r1, r2, r3⟩ := range_t S m t k hS hS2 hk hk2 hm hm2 h1 h2
  have hG : 0 < 2 ^ (t - 2) := Nat.two_pow_pos _
  have e : 2 ^ t = 4 * 2 ^ (t - 2) := psplit 2 (t - 2) t (by omega)
  have e10 : 10 ^ (k + 1) = 10 ^ k * 10 := Nat.pow_succ ..
  have e0 : 0 < 10 ^ k := Nat.pow_pos (by omega)
  have em : m * 2 ^ t = 4 * m * 2 ^ (t - 2) := by rw [e]; ac_rfl
  have em10 : 40 * m * 2 ^ (t - 2) = 10 * (4 * m * 2 ^ (t - 2)) := by rw [← Nat.mul_assoc, ← Nat.mul_assoc]
  have hle66 : t ≤ 66 := by
    rcases Nat.lt_or_ge t 67 with h | h
    · omega
    · have a1 : 2 ^ 67 ≤ 2 ^ t := Nat.pow_le_pow_right (by omega) h
      have a2 : 2 ^ t ≤ m * 2 ^ t := Nat.le_mul_of_pos_left _ hm
      have a3 : S * 10 ^ k ≤ 9007199254740991 * 10 ^ 4 := Nat.mul_le_mul (by omega) (Nat.pow_le_pow_right (by omega) hk2)
      have a4 : 10 ^ k ≤ 10 ^ 4 := Nat.pow_le_pow_right (by omega) hk2
      omega
  refine ⟨r1, hle66, ?_⟩
  unfold okFix at r2
  simp only [Bool.and_eq_true, Bool.or_eq_true, beq_iff_eq, decide_eq_true_eq] at r2
  obtain ⟨⟨⟨⟨hp, hn1⟩, hn2⟩, hl1⟩, hl2⟩ := r2
  obtain ⟨n, hn⟩ : ∃ n : Nat, digitsN t k = n := ⟨(digitsN t k).toNat, by omega⟩
  rw [hn] at hp hn1 hn2 ⊢
  rw [em] at h1 h2
  rcases hp with ⟨⟨hp, ht⟩, hlt⟩ | hp
  · rw [hp] at hl1 hl2 ⊢
    refine ⟨k, n, rfl, rfl, by omega, by omega, by omega, by omega, by simpa using hl1, by simpa using hl2, Or.inl ⟨rfl, ?_⟩⟩
    obtain ⟨q1, q2⟩ := round_same (S * 10 ^ k) (2 ^ (t - 2)) m (10 ^ k) hG (by omega) hm h2 h1
    refine ⟨q1, ?_⟩
    have hmn : m < 10 ^ n := by
      have b1 : m * 2 ^ t ≤ 9007199254740992 * 10 ^ k := by
        rw [em]
        have : S * 10 ^ k ≤ 9007199254740991 * 10 ^ k := Nat.mul_le_mul_right _ (by omega)
        omega
      have b2 : 9007199254740992 = 2 ^ t * 2 ^ (53 - t) := psplit t (53 - t) 53 (by omega)
      rw [b2, Nat.mul_comm m, Nat.mul_assoc] at b1
      have := Nat.le_of_mul_le_mul_left b1 (Nat.two_pow_pos t)
      simp only [Int.toNat_natCast] at hlt
      omega
    omega
  · rw [hp] at hl1 hl2 ⊢
    refine ⟨k + 1, n, rfl, rfl, by omega, by omega, by omega, by omega, by simpa using hl1, by simpa using hl2, Or.inr ⟨rfl, ?_⟩⟩
    refine round_div (S * 10 ^ (k + 1)) (2 ^ (t - 2)) m (10 ^ (k + 1)) hG r3 hm ?_ ?_
    · rw [em10, e10, show S * (10 ^ k * 10) = 10 * (S * 10 ^ k) by ac_rfl]; omega
    · rw [em10, e10, show S * (10 ^ k * 10) = 10 * (S * 10 ^ k) by ac_rfl]; omega
end Go.Proofs.YtodlhjdogcpffaaDoor
