/- FnTryToParseValueCaseTable: the numbers, the four kinds of token, the walk. -/
import Derived.Test.YtodlhjdogcpffaaDoorTtvB
import Derived.Test.YtodlhjdogcpffaaDoorParseBig2
namespace Go.Proofs.YtodlhjdogcpffaaDoor
open Go.RowKit

/-- The word of M/100. -/
def vword (neg : Bool) (M : Nat) : Nat := if M < 4503599627370496 then fword neg M 2 else lword neg M

theorem fint_big : ∀ neg : Bool, floatBits .quo .f64 (fint neg 9007199254740992) (fint false 100) = some (Ieee.double.nearest neg (sig25 4503599627370496) (-8)) := by decide +kernel
theorem quo_v (m : Int) (hM : m.natAbs ≤ 9007199254740992) : floatBits .quo .f64 (floatOfInt .f64 m) 4636737291354636288 = some (vword (decide (m < 0)) m.natAbs) := by
  have e : floatOfInt .f64 m = fint (decide (m < 0)) m.natAbs := rfl
  have e2 : (4636737291354636288 : Nat) = fint false 100 := by decide +kernel
  rw [e, e2]
  unfold vword
  split
  · unfold fword
    by_cases h0 : m.natAbs = 0
    · have : m = 0 := by omega
      subst this
      decide +kernel
    · rw [if_neg h0]
      exact fdec_quo _ _ 2 (by omega) (by omega) (by omega) (by omega)
  · unfold lword
    split
    · exact quo_sig _ _ (by omega) (by omega)
    · have : m.natAbs = 9007199254740992 := by omega
      rw [this]
      exact fint_big _

theorem plain_dec2 (neg : Bool) (M : Nat) (hM : M ≤ 9007199254740992) (hs : M / 10 ^ (2 - tails M) < 4503599627370496) : Dec (txt (plainL neg (M / 10 ^ (2 - tails M)) (intN M) (tails M))) neg (M / 10 ^ (2 - tails M)) (tails M) := by
  have ht := tails_le M
  have hN : Lib.nDigits M ≤ 16 := nDigits_le M 16 (by omega) (by omega)
  have hi : intN M ≤ 14 := by unfold intN; split <;> omega
  refine plainL_dec neg _ _ _ (intN_pos M) (by omega) (by omega) ?_ hs
  apply Nat.div_lt_of_lt_mul
  rw [← Nat.pow_add, show 2 - tails M + (intN M + tails M) = intN M + 2 by omega]
  exact intN_lt M
theorem plain_decL (neg : Bool) (M : Nat) (hM : M ≤ 9007199254740992) (ht : tails M = 2) (hs : 4503599627370496 ≤ M) : DecL (txt (plainL neg (M / 10 ^ (2 - tails M)) (intN M) (tails M))) neg M := by
  rw [ht, Nat.sub_self, Nat.pow_zero, Nat.div_one]
  have hN : Lib.nDigits M ≤ 16 := nDigits_le M 16 (by omega) (by omega)
  have hi : intN M ≤ 14 := by unfold intN; split <;> omega
  obtain ⟨h1, h2, h3⟩ := plainL_core neg M (intN M) 2 (intN_pos M) (by omega) (by omega) (by omega) (intN_lt M)
  exact ⟨h1, plainL_min neg M _ _, h2, by rw [h3, if_neg (by omega)]; rfl, hs, hM⟩

/-- M/10 of one decimal, M of 53 bits. -/
theorem fdec_tenth (neg : Bool) (a : Nat) (h1 : 4503599627370496 ≤ 10 * a) (h2 : 10 * a < 9007199254740992) : fdec neg a 1 = Ieee.double.nearest neg (sig25 (10 * a)) (-9) := by
  obtain ⟨p, l⟩ := fdec_near neg a 1 (by omega) (by omega) (by omega) (by omega)
  have hl10 : (10 ^ 1).log2 = 3 := by decide +kernel
  rw [hl10] at p l
  have eB : 10 ^ 1 * 2 ^ (52 - 3) = 5629499534213120 := by decide
  rw [eB] at p l
  have es : sig25 (10 * a) = 2 * (128 * a / 5) + (128 * a % 5 != 0).toNat := by
    unfold sig25
    have e1 : 64 * (10 * a) / 25 = 128 * a / 5 := by omega
    have e2 : (10 * a % 25 != 0) = (128 * a % 5 != 0) := by rw [Bool.eq_iff_iff, bne_iff_ne, bne_iff_ne]; omega
    rw [e1, e2]
  rw [es, p]
  have hlo : a.log2 = 48 ∨ a.log2 = 49 := by
    rcases Nat.lt_or_ge a 562949953421312 with h | h
    · left; exact (Nat.log2_eq_iff (by omega)).2 ⟨by omega, by omega⟩
    · right; exact (Nat.log2_eq_iff (by omega)).2 ⟨by omega, by omega⟩
  have eB2 : (5629499534213120 : Nat) = 1125899906842624 * 5 := by omega
  have hnz : ∀ x : Nat, (1125899906842624 * x != 0) = (x != 0) := fun x => by
    rw [Bool.eq_iff_iff, bne_iff_ne, bne_iff_ne]
    constructor <;> intro h h2 <;> apply h <;> omega
  rcases hlo with h | h
  · rw [h] at l ⊢
    have e58 : 2 ^ (106 - 48) = 288230376151711744 := by decide
    have ee : a * 288230376151711744 = 1125899906842624 * (2 * (128 * a)) := by rw [Nat.mul_comm a]; omega
    rw [e58, ee, eB2, Nat.mul_div_mul_left _ _ (by omega), Nat.mul_mod_mul_left, hnz] at l ⊢
    have hl : 54 ≤ (2 * (128 * a / 5) + (128 * a % 5 != 0).toNat).log2 := (Nat.le_log2 (by omega)).2 (by omega)
    have ep : ((48 : Nat) : Int) - ((3 : Nat) : Int) - 55 = -9 - 1 := rfl
    rw [ep]
    exact nearest_sticky neg (128 * a) 5 (-9) (by omega) hl (by omega)
  · rw [h] at l ⊢
    have e57 : 2 ^ (106 - 49) = 144115188075855872 := by decide
    have ee : a * 144115188075855872 = 1125899906842624 * (128 * a) := by rw [Nat.mul_comm a]; omega
    have ep : ((49 : Nat) : Int) - ((3 : Nat) : Int) - 55 = -9 := rfl
    rw [e57, ee, eB2, Nat.mul_div_mul_left _ _ (by omega), Nat.mul_mod_mul_left, hnz, ep]
theorem sig_hundred (a : Nat) : sig25 (100 * a) = a * 512 := by
  unfold sig25
  have e1 : 64 * (100 * a) / 25 = 256 * a := by omega
  have e2 : 100 * a % 25 = 0 := by omega
  rw [e1, e2]
  have e3 : ((0 : Nat) != 0).toNat = 0 := rfl
  rw [e3]
  omega
theorem fint_hundredth (neg : Bool) (a : Nat) : Ieee.double.nearest neg (sig25 (100 * a)) (-9) = fint neg a := by
  have h := Fl.nearest_scale Ieee.double neg a 9 0
  have e9 : (0 : Int) - ((9 : Nat) : Int) = -9 := rfl
  have e512 : (2 : Nat) ^ 9 = 512 := by decide
  rw [e9, e512] at h
  rw [sig_hundred, h]

/-- The float of the text. -/
theorem plain_v (neg : Bool) (M : Nat) (hM : M ≤ 9007199254740992) (h0 : M = 0 → neg = false) (hs : M / 10 ^ (2 - tails M) < 4503599627370496) : fdec neg (M / 10 ^ (2 - tails M)) (tails M) = vword neg M := by
  unfold vword
  by_cases hz : M = 0
  · subst hz
    rw [h0 rfl, if_pos (by omega)]
    decide +kernel
  · have e := tails_mul M
    have ht := tails_le M
    have hpos : 0 < M / 10 ^ (2 - tails M) := by
      rcases Nat.eq_zero_or_pos (M / 10 ^ (2 - tails M)) with h | h
      · rw [h] at e; omega
      · exact h
    generalize hm : M / 10 ^ (2 - tails M) = m at *
    have h3 : tails M = 0 ∨ tails M = 1 ∨ tails M = 2 := by omega
    split
    · unfold fword
      rw [if_neg hz]
      rcases h3 with h | h | h <;> rw [h] at e ⊢
      · rw [e]
        have : fdec neg m 0 = fint neg m := by unfold fdec; rw [if_pos (Or.inl rfl)]
        rw [this]
        exact (fdec_whole neg m 2 hpos (by omega) (by omega) (by omega)).symm
      · rw [e]
        exact (fdec_nought neg m hpos (by omega)).symm
      · rw [e]; congr 1; omega
    · unfold lword
      rcases h3 with h | h | h <;> rw [h] at e ⊢
      · have e' : M = 100 * m := by rw [e]
        have : fdec neg m 0 = fint neg m := by unfold fdec; rw [if_pos (Or.inl rfl)]
        rw [this, if_pos (by omega), e', fint_hundredth]
      · have e' : M = 10 * m := by rw [e]
        rw [if_pos (by omega), e', fdec_tenth neg m (by omega) (by omega)]
      · exfalso
        simp at e
        omega

set_option maxRecDepth 100000 in
set_option maxHeartbeats 2000000 in
theorem ParseFloat_big (s : ByteArray) (neg : Bool) (m : Nat) (w : World) (h : DecL s neg m) (hv : FltVars w) (hr : RowM2 w) :
    Calls Tryd.prog 25 #[.string s, .int .i64 64] w fun e w' => e = .returned (.tuple #[.float .f64 (lword neg m), .nilIface]) ∧ Below w.heap.size w w' := by
  have HA := Lib.hid (atof64_big s neg m w h hv hr)
  clear h hv hr
  go_enter Tryd.func25, Tryd.ntmps25
  go_wp2_with (first | (go_at_call 57; refine HA.out.mono ?_; rintro e w' ⟨rfl, hb⟩; have HB := Lib.hid hb; clear hb) | (go_at_call 31; go_in) | (go_at_call 36; go_in))
  go_ret2
  exact ⟨rfl, HB.out⟩

theorem parses_v (neg : Bool) (M : Nat) (w : World) (hM : M ≤ 9007199254740992) (h0 : M = 0 → neg = false) (hv : PowVars w) (hr : RowM2 w) :
    ParsesB (txt (plainL neg (M / 10 ^ (2 - tails M)) (intN M) (tails M))) (vword neg M) w := by
  intro wx hb
  rcases Nat.lt_or_ge (M / 10 ^ (2 - tails M)) 4503599627370496 with hs | hs
  · refine (ParseFloat_dec _ neg _ _ wx (plain_dec2 neg M hM hs) (hv.below hb)).mono ?_
    rintro e w' ⟨rfl, rfl⟩
    exact ⟨by rw [plain_v neg M hM h0 hs], Below.refl _ _⟩
  · have ht : tails M = 2 := by
      have := tails_le M
      have h3 : tails M = 0 ∨ tails M = 1 ∨ tails M = 2 := by omega
      rcases h3 with h | h | h
      · rw [h] at hs; simp at hs; omega
      · rw [h] at hs; simp at hs; omega
      · exact h
    have hs2 : 4503599627370496 ≤ M := by rw [ht] at hs; simpa using hs
    have := ParseFloat_big _ neg M wx (plain_decL neg M hM ht hs2) (hv.flt.below hb) (hr.below hb)
    have e : vword neg M = lword neg M := by unfold vword; rw [if_neg (by omega)]
    rw [e]
    exact this

/-- Is it nought? -/
theorem word_ne (neg : Bool) (Y K : Nat) (hY : Y ≤ 2000) (h1 : 4503599627370496 ≤ K) (h2 : K ≤ 9007199254740992) : (FloatKind.f64.format.order (Ieee.double.word neg (Y * 4503599627370496 + K)) 0 != some Ordering.eq) = true := by
  obtain ⟨S, e, j, h, hk, _⟩ := read_long neg Y K hY h1 h2
  have hS : 0 < S := by
    rcases Nat.eq_zero_or_pos S with rfl | h
    · simp at hk; omega
    · exact h
  have e0 : FloatKind.f64.format.order (Ieee.double.word neg (Y * 4503599627370496 + K)) 0 = Ieee.Datum.order (Ieee.double.read (Ieee.double.word neg (Y * 4503599627370496 + K))) (Ieee.double.read 0) := rfl
  have r0 : Ieee.double.read 0 = .number false 0 (-1074) := by decide +kernel
  rw [e0, h, r0]
  simp only [Ieee.Datum.order]
  rw [bne_iff_ne]
  intro hc
  have hc := Option.some.inj hc
  rw [Std.LawfulEqCmp.compare_eq_iff_eq] at hc
  unfold Ieee.signed at hc
  rw [Nat.shiftLeft_eq, Nat.shiftLeft_eq] at hc
  have hp := Nat.mul_pos hS (Nat.two_pow_pos (e - min e (-1074)).toNat)
  obtain ⟨X, hX⟩ : ∃ X, S * 2 ^ (e - min e (-1074)).toNat = X := ⟨_, rfl⟩
  rw [hX] at hc hp
  rw [Nat.zero_mul] at hc
  cases neg
  · rw [if_neg (by decide), if_neg (by decide)] at hc; omega
  · rw [if_pos rfl, if_neg (by decide)] at hc; omega
end Go.Proofs.YtodlhjdogcpffaaDoor
