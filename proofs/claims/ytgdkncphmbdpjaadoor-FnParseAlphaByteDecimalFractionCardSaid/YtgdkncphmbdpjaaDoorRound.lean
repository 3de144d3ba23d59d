/- math.Round: what it answers at any float, as a function of its bits; of a whole number: itself. -/
import Derived.Test.YtgdkncphmbdpjaaDoorParseNum
import Derived.Laws.Bits64b
namespace Go.Proofs.YtgdkncphmbdpjaaDoor
open Go.RowKit

theorem run_tobits (b : Nat) (w : World) : (callFunc 27 #[.float .f64 b]).run Tryd.prog w = .ok (.value (.int .u64 b)) w :=
  (run_callFunc_extern (e := Extern.MathFloatBits.float64bits) Tryd.func27 (by kernel_rfl) (by kernel_rfl) (by kernel_rfl) (by kernel_rfl) _ w).trans rfl
theorem run_mfrombits (n : Int) (w : World) : (callFunc 28 #[.int .u64 n]).run Tryd.prog w = .ok (.value (.float .f64 n.toNat)) w :=
  (run_callFunc_extern (e := Extern.MathFloatBits.float64frombits) Tryd.func28 (by kernel_rfl) (by kernel_rfl) (by kernel_rfl) (by kernel_rfl) _ w).trans rfl

/-- The bits that Round answers. -/
def roundBits (b : Nat) : Nat :=
  if b / 4503599627370496 % 2048 < 1023 then
    if b / 4503599627370496 % 2048 = 1022 then (bits BinOp.or IntKind.u64 (bits BinOp.and IntKind.u64 b 9223372036854775808) 4607182418800017408).toNat
    else (bits BinOp.and IntKind.u64 b 9223372036854775808).toNat
  else if b / 4503599627370496 % 2048 < 1075 then
    (bits BinOp.andNot IntKind.u64 (IntKind.u64.wrap ((b : Int) + 2251799813685248 / 2 ^ (b / 4503599627370496 % 2048 - 1023))) (4503599627370495 / 2 ^ (b / 4503599627370496 % 2048 - 1023))).toNat
  else b

set_option maxRecDepth 100000 in
set_option maxHeartbeats 1000000 in
theorem Round_any (b : Nat) (w : World) (hb : b < 18446744073709551616) :
    Calls Tryd.prog 23 #[.float .f64 b] w fun en w' => en = .returned (.float .f64 (roundBits b)) ∧ w = w' := by
  have hb1 := run_tobits
  have hb2 := run_mfrombits
  obtain ⟨e, hee⟩ : ∃ e, b / 4503599627370496 % 2048 = e := ⟨_, rfl⟩
  have he : bits BinOp.and IntKind.u64 ((b : Int) / 4503599627370496) 2047 = e := by
    have h1 := bits_and_u64_nat (b / 4503599627370496) 2047 (by omega) (by omega)
    have h2 : (b / 4503599627370496) &&& 2047 = b / 4503599627370496 % 2048 := Nat.and_two_pow_sub_one_eq_mod _ 11
    rw [h2, hee] at h1
    exact h1
  by_cases h1 : e < 1023
  · have h3 : (e : Int) < 1023 := by omega
    by_cases h5 : e = 1022
    · subst h5
      have hr : roundBits b = (bits BinOp.or IntKind.u64 (bits BinOp.and IntKind.u64 b 9223372036854775808) 4607182418800017408).toNat := by unfold roundBits; rw [hee]; simp
      rw [hr]
      go_enter Tryd.func23, Tryd.ntmps23
      go_wp2
      go_ret
      exact ⟨rfl, rfl⟩
    · have h6 : ((e : Int) == 1022) = false := by rw [beq_eq_false_iff_ne]; omega
      have hr : roundBits b = (bits BinOp.and IntKind.u64 b 9223372036854775808).toNat := by unfold roundBits; rw [hee]; simp [h1, h5]
      rw [hr]
      go_enter Tryd.func23, Tryd.ntmps23
      go_wp2
      go_ret
      exact ⟨rfl, rfl⟩
  · have h3 : ¬ (e : Int) < 1023 := by omega
    by_cases h2 : e < 1075
    · have h4 : (e : Int) < 1075 := by omega
      have h7 : 1023 ≤ e := by omega
      have hr : roundBits b = (bits BinOp.andNot IntKind.u64 (IntKind.u64.wrap ((b : Int) + 2251799813685248 / 2 ^ (e - 1023))) (4503599627370495 / 2 ^ (e - 1023))).toNat := by unfold roundBits; rw [hee]; simp [h1, h2]
      rw [hr]
      clear hee
      go_enter Tryd.func23, Tryd.ntmps23
      go_wp2
      go_ret
      exact ⟨rfl, rfl⟩
    · have h4 : ¬ (e : Int) < 1075 := by omega
      have hr : roundBits b = b := by unfold roundBits; rw [hee]; simp [h1, h2]
      rw [hr]
      go_enter Tryd.func23, Tryd.ntmps23
      go_wp2
      go_ret
      exact ⟨rfl, rfl⟩

theorem andNot_low (x j : Nat) (hx : x < 18446744073709551616) (hj : j ≤ 63) : (bits BinOp.andNot IntKind.u64 (x : Int) ((2 ^ j - 1 : Nat) : Int)).toNat = x / 2 ^ j * 2 ^ j := by
  have hy : 2 ^ j - 1 < 18446744073709551616 := by
    have : 2 ^ j ≤ 2 ^ 63 := Nat.pow_le_pow_right (by omega) hj
    omega
  unfold bits
  simp only [IntKind.bits, BitVec.ofInt_natCast]
  have hlt := (BitVec.ofNat 64 x &&& ~~~BitVec.ofNat 64 (2 ^ j - 1)).isLt
  rw [IntKind.wrap_u64]
  have e0 : (((BitVec.ofNat 64 x &&& ~~~BitVec.ofNat 64 (2 ^ j - 1)).toNat : Int) % 18446744073709551616).toNat = (BitVec.ofNat 64 x &&& ~~~BitVec.ofNat 64 (2 ^ j - 1)).toNat := by omega
  refine e0.trans ?_
  apply Nat.eq_of_testBit_eq
  intro i
  rw [BitVec.testBit_toNat, BitVec.getLsbD_and, BitVec.getLsbD_not, BitVec.getLsbD_ofNat, BitVec.getLsbD_ofNat, Nat.testBit_two_pow_sub_one, Nat.mul_comm, Nat.testBit_two_pow_mul, Nat.testBit_div_two_pow]
  by_cases h64 : i < 64
  · by_cases hij : i < j
    · simp [h64, hij]; intro h; omega
    · have : i - j + j = i := by omega
      simp [h64, hij, this, Nat.le_of_not_lt hij]
  · have hxi : x.testBit i = false := Nat.testBit_lt_two_pow (Nat.lt_of_lt_of_le hx (by
      have : 2 ^ 64 ≤ 2 ^ i := Nat.pow_le_pow_right (by omega) (by omega)
      exact this))
    by_cases hij : j ≤ i
    · have : i - j + j = i := by omega
      simp [h64, this, hxi]
    · simp [h64, hij]

theorem pow_split (a k n : Nat) (h : a + k = n) : 2 ^ n = 2 ^ a * 2 ^ k := by rw [← Nat.pow_add, h]

theorem word_rung (neg : Bool) (m : Nat) (hm : 0 < m) (h : m < 2 ^ 53) : ∃ T, fint neg m = T * 9223372036854775808 + Fl.rung m ∧ T ≤ 1 := by
  have e : fint neg m = Ieee.double.word neg (Fl.rung m) := Fl.nearest_int neg m hm h
  rw [e]
  have es : Ieee.double.signWeight = 9223372036854775808 := rfl
  unfold Ieee.Format.word
  rw [es]
  cases neg
  · exact ⟨0, by simp, by omega⟩
  · exact ⟨1, by simp, by omega⟩

theorem round_whole (neg : Bool) (m : Nat) (h : m < 2 ^ 53) : roundBits (fint neg m) = fint neg m := by
  rcases Nat.eq_zero_or_pos m with rfl | hm
  · cases neg <;> decide +kernel
  · obtain ⟨T, hT, hT1⟩ := word_rung neg m hm h
    obtain ⟨h1, h2, h3⟩ := Fl.rung_bounds m hm h
    have hk := Fl.log2_le m hm h
    have hsb := Fl.sig_bounds m hm h
    have hru : Fl.rung m = (m.log2 + 1022) * 2 ^ 52 + m * 2 ^ (52 - m.log2) := rfl
    generalize fint neg m = b at hT
    generalize Fl.rung m = R at *
    generalize m.log2 = k at *
    have he : b / 4503599627370496 % 2048 = k + 1023 := by omega
    unfold roundBits
    rw [he, if_neg (by omega)]
    split
    · rename_i hlt
      have hk51 : k ≤ 51 := by omega
      have e1 : k + 1023 - 1023 = k := by omega
      have e2 : (2251799813685248 : Int) / 2 ^ k = ((2 ^ (51 - k) : Nat) : Int) := by
        have : (2251799813685248 : Nat) / 2 ^ k = 2 ^ (51 - k) := by
          have : (2251799813685248 : Nat) = 2 ^ (51 - k) * 2 ^ k := pow_split (51 - k) k 51 (by omega)
          rw [this, Nat.mul_div_cancel _ (Nat.two_pow_pos k)]
        rw [← this]; simp
      have e3 : (4503599627370495 : Int) / 2 ^ k = ((2 ^ (52 - k) - 1 : Nat) : Int) := by
        have : (4503599627370495 : Nat) / 2 ^ k = 2 ^ (52 - k) - 1 := by
          have hp : 0 < 2 ^ k := Nat.two_pow_pos k
          have hq : (4503599627370496 : Nat) = 2 ^ (52 - k) * 2 ^ k := pow_split (52 - k) k 52 (by omega)
          have hq2 : 0 < 2 ^ (52 - k) := Nat.two_pow_pos _
          have : (4503599627370495 : Nat) = (2 ^ k - 1) + 2 ^ k * (2 ^ (52 - k) - 1) := by
            rw [Nat.mul_sub, Nat.mul_one, Nat.mul_comm (2 ^ k), ← hq]
            have : 2 ^ k ≤ 2 ^ 52 := Nat.pow_le_pow_right (by omega) (by omega)
            omega
          rw [this, Nat.add_mul_div_left _ _ hp, Nat.div_eq_of_lt (by omega)]
          omega
        rw [← this]; simp
      rw [e1, e2, e3]
      have hj : 2 ^ (52 - k) = 2 * 2 ^ (51 - k) := by
        have : 52 - k = 51 - k + 1 := by omega
        rw [this, Nat.pow_succ, Nat.mul_comm]
      have hq : (4503599627370496 : Nat) = 2 ^ (52 - k) * 2 ^ k := pow_split (52 - k) k 52 (by omega)
      have hp51 : 2 ^ (51 - k) ≤ 2 ^ 51 := Nat.pow_le_pow_right (by omega) (by omega)
      have hq51 : 0 < 2 ^ (51 - k) := Nat.two_pow_pos _
      have hwr : IntKind.u64.wrap ((b : Int) + ((2 ^ (51 - k) : Nat) : Int)) = ((b + 2 ^ (51 - k) : Nat) : Int) := by
        rw [IntKind.wrap_u64]; omega
      have hdvd : ∃ q, b = 2 ^ (52 - k) * q := by
        refine ⟨T * 2048 * 2 ^ k + (k + 1022) * 2 ^ k + m, ?_⟩
        have a1 : T * 9223372036854775808 = 2 ^ (52 - k) * (T * 2048 * 2 ^ k) := by
          have : (9223372036854775808 : Nat) = 4503599627370496 * 2048 := by decide
          rw [this, hq]; ac_rfl
        have a2 : (k + 1022) * 2 ^ 52 = 2 ^ (52 - k) * ((k + 1022) * 2 ^ k) := by
          have : (2 : Nat) ^ 52 = 4503599627370496 := by decide
          rw [this, hq]; ac_rfl
        rw [hT, hru, a1, a2, Nat.mul_add, Nat.mul_add, Nat.mul_comm m]
        omega
      obtain ⟨q, hq2⟩ := hdvd
      rw [hwr, andNot_low _ _ (by omega) (by omega), hq2, Nat.mul_comm (2 ^ (52 - k)) q]
      have : (q * 2 ^ (52 - k) + 2 ^ (51 - k)) / 2 ^ (52 - k) = q := by
        rw [Nat.add_comm, Nat.add_mul_div_right _ _ (Nat.two_pow_pos _), Nat.div_eq_of_lt (by omega), Nat.zero_add]
      rw [this]
    · rfl
end Go.Proofs.YtgdkncphmbdpjaaDoor
