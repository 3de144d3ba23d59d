/- pack64: sign, digits and place made one word. -/
import Derived.Test.YtodlhjdogcpffaaDoorParseBigN
import Derived.Laws.BitsAllLaws
namespace Go.Proofs.YtodlhjdogcpffaaDoor
open Go.RowKit

/-- Bit 52 of A * 2^53 + 2^52 + f. -/
theorem p52 : (2 : Nat) ^ 52 = 4503599627370496 := by decide
theorem p63 : (2 : Nat) ^ 63 = 9223372036854775808 := by decide
theorem and52 (A f : Nat) (hf : f < 4503599627370496) : (A * 9007199254740992 + 4503599627370496 + f) &&& 4503599627370496 = 4503599627370496 := by
  have h1 := Nat.and_div_two_pow (a := A * 9007199254740992 + 4503599627370496 + f) (b := 4503599627370496) (n := 52)
  have h2 := Nat.and_mod_two_pow (a := A * 9007199254740992 + 4503599627370496 + f) (b := 4503599627370496) (n := 52)
  rw [p52] at h1 h2
  have a1 : (A * 9007199254740992 + 4503599627370496 + f) / 4503599627370496 = 2 * A + 1 := by omega
  have b1 : 4503599627370496 / 4503599627370496 = 1 := by decide
  have b2 : 4503599627370496 % 4503599627370496 = 0 := by decide
  rw [a1, b1, Nat.and_one_is_mod] at h1
  rw [b2, Nat.and_zero] at h2
  generalize (A * 9007199254740992 + 4503599627370496 + f) &&& 4503599627370496 = X at *
  omega
theorem not52 (A f : Nat) (hA : A < 2048) (hf : f < 4503599627370496) : (A * 9007199254740992 + 4503599627370496 + f) &&& (18446744073709551615 - 4503599627370496) = A * 9007199254740992 + f := by
  have h1 := Nat.and_div_two_pow (a := A * 9007199254740992 + 4503599627370496 + f) (b := 18446744073709551615 - 4503599627370496) (n := 53)
  have h2 := Nat.and_mod_two_pow (a := A * 9007199254740992 + 4503599627370496 + f) (b := 18446744073709551615 - 4503599627370496) (n := 53)
  have e53 : (2 : Nat) ^ 53 = 9007199254740992 := by decide
  rw [e53] at h1 h2
  have a1 : (A * 9007199254740992 + 4503599627370496 + f) / 9007199254740992 = A := by omega
  have a2 : (A * 9007199254740992 + 4503599627370496 + f) % 9007199254740992 = 4503599627370496 + f := by omega
  have b1 : (18446744073709551615 - 4503599627370496) / 9007199254740992 = 2 ^ 11 - 1 := by decide
  have b2 : (18446744073709551615 - 4503599627370496) % 9007199254740992 = 2 ^ 52 - 1 := by decide
  rw [a1, b1, Nat.and_two_pow_sub_one_eq_mod] at h1
  rw [a2, b2, Nat.and_two_pow_sub_one_eq_mod] at h2
  have c1 : A % 2 ^ 11 = A := Nat.mod_eq_of_lt (by omega)
  have c2 : (4503599627370496 + f) % 2 ^ 52 = f := by
    have : (2 : Nat) ^ 52 = 4503599627370496 := by decide
    rw [this]; omega
  rw [c1] at h1
  rw [c2] at h2
  generalize (A * 9007199254740992 + 4503599627370496 + f) &&& (18446744073709551615 - 4503599627370496) = X at *
  omega
theorem or_split (A f E : Nat) (h : 4503599627370496 * (A * 2048) + f = 4503599627370496 * (A * 2048) ||| f) (h2 : 4503599627370496 * (A * 2048 + E) + f = 4503599627370496 * (A * 2048 + E) ||| f)
    (h3 : 9223372036854775808 * A + 4503599627370496 * E = 9223372036854775808 * A ||| 4503599627370496 * E) : (9223372036854775808 * A + f) ||| (4503599627370496 * E) = 9223372036854775808 * A + 4503599627370496 * E + f := by
  have e1 : 4503599627370496 * (A * 2048) = 9223372036854775808 * A := by omega
  rw [Nat.mul_add, e1] at h2
  rw [e1] at h
  rw [h2, h, h3, Nat.or_assoc, Nat.or_comm f, ← Nat.or_assoc]
theorem or_high (A f E : Nat) (hf : f < 4503599627370496) (hE : E < 2048) : (9223372036854775808 * A + f) ||| (4503599627370496 * E) = 9223372036854775808 * A + 4503599627370496 * E + f := by
  have h := Nat.two_pow_add_eq_or_of_lt (i := 52) (b := f) (by have := p52; generalize (2 : Nat) ^ 52 = Z at *; omega) (A * 2048)
  have h2 := Nat.two_pow_add_eq_or_of_lt (i := 52) (b := f) (by have := p52; generalize (2 : Nat) ^ 52 = Z at *; omega) (A * 2048 + E)
  have h3 := Nat.two_pow_add_eq_or_of_lt (i := 63) (b := 4503599627370496 * E) (by have := p63; generalize (2 : Nat) ^ 63 = Z at *; omega) A
  rw [p52] at h h2
  rw [p63] at h3
  exact or_split A f E h h2 h3
theorem or_sign (A v : Nat) (hv : v < 9223372036854775808) : (9223372036854775808 * A) ||| v = 9223372036854775808 * A + v := by
  have h3 := Nat.two_pow_add_eq_or_of_lt (i := 63) (b := v) (by have := p63; generalize (2 : Nat) ^ 63 = Z at *; omega) A
  rw [p63] at h3
  exact h3.symm
theorem word_add (neg : Bool) (R : Nat) : Ieee.double.word neg R = 9223372036854775808 * neg.toNat + R := by
  cases neg
  · simp [Ieee.Format.word]
  · have e : Ieee.double.signWeight = 9223372036854775808 := rfl
    unfold Ieee.Format.word
    simp [e]
end Go.Proofs.YtodlhjdogcpffaaDoor
