/- Law 27's numbers: three decimals. -/
import Derived.Test.YtgdkncphmbdpjaaDoorP6
import Derived.Test.YtgdkncphmbdpjaaDoorParseFrac
namespace Go.Proofs.YtgdkncphmbdpjaaDoor
open Go.RowKit

def alphaInt (d : Nat) : Option Int := (floatBits .mul .f64 (fdec false d 3) (fint false 255)).bind fun r => floatToIntVal .f64 (roundBits r) .i64
def alphaOk (d : Nat) : Bool := match alphaInt d with
  | some n => n == (255 * d / 1000 : Nat) && (255 * d % 1000 ≤ 500 : Bool) || n == (255 * d / 1000 + 1 : Nat) && (500 ≤ 255 * d % 1000 : Bool)
  | none => false
def allIn (f : Nat → Bool) (lo : Nat) : Nat → Bool
  | 0 => f lo
  | n + 1 => allIn f lo n && allIn f (lo + 2 ^ n) n
theorem allIn_at {f : Nat → Bool} : ∀ {n lo : Nat}, allIn f lo n = true → ∀ d, lo ≤ d → d < lo + 2 ^ n → f d = true
  | 0, lo, h, d, h1, h2 => by
    have : d = lo := by omega
    subst this; exact h
  | n + 1, lo, h, d, h1, h2 => by
    rw [allIn, Bool.and_eq_true] at h
    rw [Nat.pow_succ] at h2
    by_cases hd : d < lo + 2 ^ n
    · exact allIn_at h.1 d h1 hd
    · exact allIn_at h.2 d (by omega) (by omega)
set_option maxRecDepth 100000 in
theorem alpha_all : allIn alphaOk 0 10 = true := by decide +kernel

/-- What a word of a long number stands for. -/
theorem read_big (neg : Bool) (Y K : Nat) (hY : Y ≤ 2000) (h1 : 4503599627370496 ≤ K) (h2 : K ≤ 9007199254740992) :
    ∃ (S : Nat) (e : Int) (j : Nat), Ieee.double.read (Ieee.double.word neg (Y * 4503599627370496 + K)) = .number neg S e ∧ K = S * 2 ^ j ∧ e - (j : Int) = (Y : Int) - 1074 := by
  have hR : Y * 4503599627370496 + K < 2 ^ 63 := by omega
  obtain ⟨a1, a2⟩ := Fl.word_neg neg _ hR
  have e5 : Ieee.double.binade = 4503599627370496 := rfl
  have e6 : Ieee.double.infRung = 2047 * 4503599627370496 := rfl
  have e7 : Ieee.double.leastPlace = -1074 := rfl
  rcases Nat.lt_or_ge K 9007199254740992 with hlt | hge
  · refine ⟨K, (Y : Int) - 1074, 0, ?_, by omega, by omega⟩
    unfold Ieee.Format.read
    dsimp only
    rw [a1, a2, e5, e6, e7, if_neg (by omega), if_pos (by omega)]
    have b1 : 4503599627370496 + (Y * 4503599627370496 + K) % 4503599627370496 = K := by omega
    have b2 : (-1074 : Int) + (((Y * 4503599627370496 + K) / 4503599627370496 - 1 : Nat) : Int) = (Y : Int) - 1074 := by omega
    rw [b1, b2]
  · refine ⟨4503599627370496, (Y : Int) - 1073, 1, ?_, by omega, by omega⟩
    unfold Ieee.Format.read
    dsimp only
    rw [a1, a2, e5, e6, e7, if_neg (by omega), if_pos (by omega)]
    have b1 : 4503599627370496 + (Y * 4503599627370496 + K) % 4503599627370496 = 4503599627370496 := by omega
    have b2 : (-1074 : Int) + (((Y * 4503599627370496 + K) / 4503599627370496 - 1 : Nat) : Int) = (Y : Int) - 1073 := by omega
    rw [b1, b2]

theorem mul_big (neg : Bool) (Y K c : Nat) (hY : Y ≤ 2000) (h1 : 4503599627370496 ≤ K) (h2 : K ≤ 9007199254740992) (c0 : 0 < c) (hc : c < 2 ^ 53) :
    floatBits .mul .f64 (Ieee.double.word neg (Y * 4503599627370496 + K)) (fint false c) = some (Ieee.double.nearest neg (K * c) ((Y : Int) - 1074)) := by
  obtain ⟨S, e, j, h3, h4, h5⟩ := read_big neg Y K hY h1 h2
  have e0 : floatBits .mul .f64 (Ieee.double.word neg (Y * 4503599627370496 + K)) (fint false c) = Ieee.double.mul (Ieee.double.word neg (Y * 4503599627370496 + K)) (Ieee.double.nearest false c 0) := rfl
  rw [e0]
  unfold Ieee.Format.mul
  rw [h3, Fl.read_int false c c0 hc]
  have hk := Fl.log2_le c c0 hc
  simp only [Ieee.Datum.product, Option.map_some, Ieee.Format.write, Bool.xor_false]
  have e1 : S * (c * 2 ^ (52 - c.log2)) = S * c * 2 ^ (52 - c.log2) := by ac_rfl
  have e2 : e + ((c.log2 : Int) - 52) = e - ((52 - c.log2 : Nat) : Int) := by omega
  have e3 : K * c = S * c * 2 ^ j := by rw [h4]; ac_rfl
  rw [e1, e2, Fl.nearest_scale, e3, ← h5, Fl.nearest_scale]

/-- int(math.Round(Z / 2^s)) is not below c where Z / 2^s is not. -/
theorem big_toInt (neg : Bool) (Z s : Nat) (hL1 : 52 ≤ Z.log2) (_hs : s ≤ 900) (hlo : s ≤ Z.log2) (hhi : Z.log2 < s + 51) :
    ∃ n : Nat, floatToIntVal .f64 (roundBits (Ieee.double.nearest neg Z (-(s : Int)))) .i64 = some (if neg then -(n : Int) else n) ∧ ∀ c, c * 2 ^ s ≤ Z → c ≤ n := by
  have hZ0 : Z ≠ 0 := by intro h; subst h; simp at hL1
  obtain ⟨K, hK, hK1, hK2⟩ := nearest_big neg Z (-(s : Int)) hL1 (by omega) (by omega) (by omega)
  have hlo2 : 2 ^ Z.log2 ≤ Z := Nat.log2_self_le hZ0
  have hhi2 : Z < 2 ^ (Z.log2 + 1) := Nat.lt_log2_self
  have hY : (-(s : Int) + (Z.log2 : Int) + 1022).toNat = Z.log2 + 1022 - s := by omega
  rw [hY] at hK
  generalize Z.log2 = L at *
  have s1 : 2 ^ L = 4503599627370496 * 2 ^ (L - 52) := pow_split 52 (L - 52) L (by omega)
  have s2 : 2 ^ (L + 1) = 9007199254740992 * 2 ^ (L - 52) := pow_split 53 (L - 52) (L + 1) (by omega)
  rw [s1] at hlo2
  rw [s2] at hhi2
  have d1 : 4503599627370496 ≤ Z / 2 ^ (L - 52) := (Nat.le_div_iff_mul_le (Nat.two_pow_pos _)).2 hlo2
  have d2 : Z / 2 ^ (L - 52) < 9007199254740992 := (Nat.div_lt_iff_lt_mul (Nat.two_pow_pos _)).2 hhi2
  have hb : ∀ c, c * 2 ^ s ≤ Z → c * 2 ^ (s + 52 - L) ≤ K := fun c hc => by
    refine Nat.le_trans ?_ hK1
    apply (Nat.le_div_iff_mul_le (Nat.two_pow_pos _)).2
    rw [Nat.mul_assoc, ← Nat.pow_add]
    have : s + 52 - L + (L - 52) = s := by omega
    rw [this]; exact hc
  rw [hK]
  rcases Nat.lt_or_ge K 9007199254740992 with hlt | hge
  · refine ⟨(K + 2 ^ (s + 52 - L - 1)) / 2 ^ (s + 52 - L), ?_, fun c hc => ?_⟩
    · rw [roundBits_word neg _ (L + 1023 - s) (s + 52 - L) (by omega) (by omega) (by omega) (by omega)]
      exact round_trunc neg _ (L + 1023 - s) K (s + 52 - L) _ (by omega) (by omega) (by omega) (by omega) (by omega) rfl
    · apply (Nat.le_div_iff_mul_le (Nat.two_pow_pos _)).2
      exact Nat.le_trans (hb c hc) (Nat.le_add_right _ _)
  · have hKe : K = 9007199254740992 := by omega
    subst hKe
    refine ⟨(4503599627370496 + 2 ^ (s + 51 - L - 1)) / 2 ^ (s + 51 - L), ?_, fun c hc => ?_⟩
    · rw [roundBits_word neg _ (L + 1024 - s) (s + 51 - L) (by omega) (by omega) (by omega) (by omega)]
      exact round_trunc neg _ (L + 1024 - s) 4503599627370496 (s + 51 - L) _ (by omega) (by omega) (by omega) (by omega) (by omega) rfl
    · apply (Nat.le_div_iff_mul_le (Nat.two_pow_pos _)).2
      have h3 := hb c hc
      have e1 : 2 ^ (s + 52 - L) = 2 * 2 ^ (s + 51 - L) := pow_split 1 (s + 51 - L) (s + 52 - L) (by omega)
      rw [e1, show c * (2 * 2 ^ (s + 51 - L)) = 2 * (c * 2 ^ (s + 51 - L)) by ac_rfl] at h3
      have h4 : c * 2 ^ (s + 51 - L) ≤ 4503599627370496 := by omega
      exact Nat.le_trans h4 (Nat.le_add_right _ _)

theorem alpha_big (d : Nat) (h1 : 1000 ≤ d) (h2 : d < 65536) : ∃ n : Int, alphaInt d = some n ∧ 255 ≤ n := by
  obtain ⟨l, hl⟩ : ∃ l, d.log2 = l := ⟨_, rfl⟩
  have hd0 : d ≠ 0 := by omega
  have l1 : 9 ≤ l := by rw [← hl]; exact (Nat.le_log2 hd0).2 (by omega)
  have l2 : l < 16 := by rw [← hl]; exact (Nat.log2_lt hd0).2 (by omega)
  have hlo : 2 ^ l ≤ d := by rw [← hl]; exact Nat.log2_self_le hd0
  have hhi : d < 2 ^ (l + 1) := by rw [← hl]; exact Nat.lt_log2_self
  -- the quotient
  have hq : ∃ Z, floatBits .quo .f64 (fint false d) (fint false (10 ^ 3)) = some (Ieee.double.nearest false Z (-((64 - l : Nat) : Int))) ∧ Z = 2 * (d * 2 ^ (63 - l) / 1000) + (d * 2 ^ (106 - l) % (1000 * 2 ^ 43) != 0).toNat := by
    refine ⟨_, ?_, rfl⟩
    have e0 : floatBits .quo .f64 (fint false d) (fint false (10 ^ 3)) = Ieee.double.div (Ieee.double.nearest false d 0) (Ieee.double.nearest false 1000 0) := rfl
    rw [e0]
    unfold Ieee.Format.div
    rw [Fl.read_int false d (by omega) (by omega), Fl.read_int false 1000 (by omega) (by omega), hl]
    have e9 : Nat.log2 1000 = 9 := by decide +kernel
    rw [e9]
    have e10 : (1000 * 2 ^ (52 - 9)).log2 = 52 := by decide +kernel
    have e11 : (d * 2 ^ (52 - l)).log2 = 52 := by rw [Fl.log2_mul_pow d _ (by omega), hl]; omega
    have efb : Ieee.double.fractionBits = 52 := rfl
    simp only [Ieee.Datum.quotient, e10, e11, efb]
    rw [if_neg (by decide)]
    simp only [Option.map_some, Ieee.Format.write, Bool.xor_false, Nat.shiftLeft_eq]
    have m1 : 52 + 2 + 52 - 52 = 54 := rfl
    rw [m1]
    have m2 : d * 2 ^ (52 - l) * 2 ^ 54 = d * 2 ^ (106 - l) := by
      rw [Nat.mul_assoc, ← Nat.pow_add]; congr 2; omega
    have m3 : d * 2 ^ (106 - l) / (1000 * 2 ^ (52 - 9)) = d * 2 ^ (63 - l) / 1000 := by
      have : d * 2 ^ (106 - l) = d * 2 ^ (63 - l) * 2 ^ 43 := by rw [Nat.mul_assoc, ← Nat.pow_add]; congr 2; omega
      rw [this, Nat.mul_div_mul_right _ _ (by decide)]
    have m4 : (l : Int) - 52 - (((9 : Nat) : Int) - 52) - ((54 : Nat) : Int) - 1 = -((64 - l : Nat) : Int) := by omega
    rw [m2, m3, m4]
  obtain ⟨Z, hq, hZ⟩ := hq
  have hst : (d * 2 ^ (106 - l) % (1000 * 2 ^ 43) != 0).toNat ≤ 1 := Bool.toNat_le _
  generalize (d * 2 ^ (106 - l) % (1000 * 2 ^ 43) != 0).toNat = st at hZ hst
  have hA : 2 ^ (63 - l) ≤ d * 2 ^ (63 - l) / 1000 := by
    apply (Nat.le_div_iff_mul_le (by omega)).2
    rw [Nat.mul_comm]
    exact Nat.mul_le_mul_right _ h1
  have hB : d * 2 ^ (63 - l) / 1000 < 2 ^ (70 - l) := by
    apply (Nat.div_lt_iff_lt_mul (by omega)).2
    have : d * 2 ^ (63 - l) < 65536 * 2 ^ (63 - l) := Nat.mul_lt_mul_of_pos_right h2 (Nat.two_pow_pos _)
    have e : 2 ^ (70 - l) = 128 * 2 ^ (63 - l) := pow_split 7 (63 - l) (70 - l) (by omega)
    rw [e]; omega
  have p1 : 2 ^ (64 - l) = 2 * 2 ^ (63 - l) := pow_split 1 (63 - l) (64 - l) (by omega)
  have p2 : 2 ^ (72 - l) = 4 * 2 ^ (70 - l) := pow_split 2 (70 - l) (72 - l) (by omega)
  have p3 : 0 < 2 ^ (70 - l) := Nat.two_pow_pos _
  have p4 : 2 ^ 49 ≤ 2 ^ (64 - l) := Nat.pow_le_pow_right (by omega) (by omega)
  have hX : 4 * 2 ^ 50 ≤ d * 2 ^ (63 - l) / 1000 := by
    apply (Nat.le_div_iff_mul_le (by omega)).2
    have : 2 ^ l * 2 ^ (63 - l) ≤ d * 2 ^ (63 - l) := Nat.mul_le_mul_right _ hlo
    rw [← Nat.pow_add, show l + (63 - l) = 63 by omega] at this
    omega
  have hZ1 : 2 ^ (64 - l) ≤ Z := by omega
  have hZ2 : Z < 2 ^ (72 - l) := by omega
  have hZ3 : 2 ^ 52 ≤ Z := by omega
  have hZ0 : Z ≠ 0 := by omega
  clear hA hB hX hZ hst p1 p2 p3 p4
  have L1 : 52 ≤ Z.log2 := (Nat.le_log2 hZ0).2 hZ3
  have L2 : Z.log2 < 72 - l := (Nat.log2_lt hZ0).2 hZ2
  have L3 : 64 - l ≤ Z.log2 := (Nat.le_log2 hZ0).2 hZ1
  obtain ⟨K, hK, hK1, hK2⟩ := nearest_big false Z (-((64 - l : Nat) : Int)) L1 (by omega) (by omega) (by omega)
  have hzl : 2 ^ Z.log2 ≤ Z := Nat.log2_self_le hZ0
  have hzh : Z < 2 ^ (Z.log2 + 1) := Nat.lt_log2_self
  have hY : (-((64 - l : Nat) : Int) + (Z.log2 : Int) + 1022).toNat = Z.log2 + 958 + l := by omega
  rw [hY] at hK
  generalize Z.log2 = L at *
  have s1 : 2 ^ L = 4503599627370496 * 2 ^ (L - 52) := pow_split 52 (L - 52) L (by omega)
  have s2 : 2 ^ (L + 1) = 9007199254740992 * 2 ^ (L - 52) := pow_split 53 (L - 52) (L + 1) (by omega)
  rw [s1] at hzl
  rw [s2] at hzh
  have d1 : 4503599627370496 ≤ Z / 2 ^ (L - 52) := (Nat.le_div_iff_mul_le (Nat.two_pow_pos _)).2 hzl
  have d2 : Z / 2 ^ (L - 52) < 9007199254740992 := (Nat.div_lt_iff_lt_mul (Nat.two_pow_pos _)).2 hzh
  have hKs : 2 ^ (116 - l - L) ≤ K := by
    refine Nat.le_trans ?_ hK1
    apply (Nat.le_div_iff_mul_le (Nat.two_pow_pos _)).2
    rw [← Nat.pow_add, show 116 - l - L + (L - 52) = 64 - l by omega]
    exact hZ1
  have k1 : 4503599627370496 ≤ K := by omega
  have k2 : K ≤ 9007199254740992 := by omega
  unfold alphaInt fdec
  rw [if_neg (by omega), hq, Option.getD_some, hK, mul_big false _ K 255 (by omega) k1 k2 (by omega) (by omega), Option.bind_some]
  have hp : ((L + 958 + l : Nat) : Int) - 1074 = -((116 - l - L : Nat) : Int) := by omega
  rw [hp]
  have hW0 : K * 255 ≠ 0 := by omega
  have hW1 : 59 ≤ (K * 255).log2 := (Nat.le_log2 hW0).2 (by omega)
  have hW2 : (K * 255).log2 < 61 := (Nat.log2_lt hW0).2 (by omega)
  obtain ⟨n, hn, hb⟩ := big_toInt false (K * 255) (116 - l - L) (by omega) (by omega) (by omega) (by omega)
  refine ⟨_, hn, ?_⟩
  have := hb 255 (by rw [Nat.mul_comm]; exact Nat.mul_le_mul_right _ hKs)
  simp only [Bool.false_eq_true, if_false]
  omega
end Go.Proofs.YtgdkncphmbdpjaaDoor
