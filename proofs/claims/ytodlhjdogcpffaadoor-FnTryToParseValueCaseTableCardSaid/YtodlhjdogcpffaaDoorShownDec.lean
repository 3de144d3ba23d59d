/- The shortest plain decimal of M/100 is a decimal's text; its float is that of M/100. -/
import Derived.Test.YtodlhjdogcpffaaDoorDecText
import Derived.Test.YtodlhjdogcpffaaDoorDecSame
import Derived.Test.YtodlhjdogcpffaaDoorLaw3
namespace Go.Proofs.YtodlhjdogcpffaaDoor
open Go.RowKit

theorem whole_txt (s : ByteArray) (neg : Bool) (m N : Nat) (hsz : s.size = neg.toNat + N) (h0 : 0 < N) (h1 : N ≤ 17) (h2 : m < 10 ^ N) (h3 : m < 4503599627370496)
    (hm : neg = true → ∀ h : 0 < s.size, s[0].toNat = 45) (hc : ∀ j (_ : j < N) (h : neg.toNat + j < s.size), s[neg.toNat + j].toNat = 48 + m / 10 ^ (N - 1 - j) % 10) : Dec s neg m 0 := by
  generalize hk0 : neg.toNat = k0 at *
  have key : ∀ n, n ≤ N → (rs s k0 n).dot = false ∧ (0 < n → (rs s k0 n).sd = true) ∧ ((rs s k0 n).nd = 0 → (rs s k0 n).mant = 0) ∧ (rs s k0 n).mant = m / 10 ^ (N - n) := by
    intro n
    induction n with
    | zero => intro _; simp [rs, Nat.div_eq_of_lt h2]
    | succ n ih =>
      intro hn
      obtain ⟨i1, i2, i3, i4⟩ := ih (by omega)
      rw [rs_succ s k0 n (by omega), hc n (by omega) (by omega)]
      have e1 : m / 10 ^ (N - n) = m / 10 ^ (N - 1 - n) / 10 := by
        rw [Nat.div_div_eq_div_mul, ← Nat.pow_succ]; congr 2; omega
      have e2 : N - (n + 1) = N - 1 - n := by omega
      rw [e1] at i4
      rw [e2]
      generalize m / 10 ^ (N - 1 - n) = D at *
      generalize rs s k0 n = r at *
      unfold RS.step
      rw [if_neg (by omega)]
      split
      · rename_i h
        refine ⟨i1, fun _ => rfl, i3, ?_⟩
        have := i3 h.2
        dsimp only
        omega
      · refine ⟨i1, fun _ => rfl, fun h => by simp at h, ?_⟩
        dsimp only
        omega
  obtain ⟨j1, j2, j3, j4⟩ := key N (Nat.le_refl _)
  have hsub : s.size - k0 = N := by omega
  rw [Nat.sub_self, Nat.pow_zero, Nat.div_one] at j4
  refine ⟨?_, by rw [← hk0] at *; exact hm, ?_, ?_, h3, by omega⟩
  · rw [hk0]
    refine ⟨by omega, by omega, by rw [hsub]; exact j2 h0, fun n hn => ?_⟩
    right; rw [hc n (by omega) hn]; omega
  · rw [hk0, hsub]; exact j4
  · rw [hk0, hsub]
    unfold RS.exp
    rw [j4, j1]
    split
    · rfl
    · simp

/-- Digits, and behind a point digits. -/
def plainL (neg : Bool) (m N j : Nat) : List UInt8 := (if neg then [45] else []) ++ digs (m / 10 ^ j) N ++ (if j = 0 then [] else 46 :: digs m j)

theorem plainL_sign (neg : Bool) : (if neg then [45] else [] : List UInt8).length = neg.toNat := by cases neg <;> rfl
theorem plainL_min (neg : Bool) (m N j : Nat) : neg = true → ∀ h : 0 < (txt (plainL neg m N j)).size, (txt (plainL neg m N j))[0].toNat = 45 := by
  rintro rfl h
  rw [txt_get]; rfl
theorem plainL_int (neg : Bool) (m N j : Nat) : ∀ i (_ : i < N) (h : neg.toNat + i < (txt (plainL neg m N j)).size), (txt (plainL neg m N j))[neg.toNat + i].toNat = 48 + m / 10 ^ (N + j - 1 - i) % 10 := by
  have hsg := plainL_sign neg
  intro i hi h
  rw [txt_get]
  unfold plainL
  rw [List.getElem_append_left (by rw [List.length_append, hsg, digs_length]; omega), List.getElem_append_right (by rw [hsg]; omega)]
  have e : (digs (m / 10 ^ j) N)[neg.toNat + i - (if neg then [45] else [] : List UInt8).length]'(by rw [hsg, digs_length]; omega) = (digs (m / 10 ^ j) N)[i]'(by rw [digs_length]; exact hi) := by
    congr 1; rw [hsg]; omega
  rw [e, digs_get, digit_nat, Nat.div_div_eq_div_mul, ← Nat.pow_add]
  congr 4; omega
theorem plainL_core (neg : Bool) (m N j : Nat) (hN : 0 < N) (hfew : N + j ≤ 17) (hj : j ≤ 15) (hj0 : 0 < j) (hm : m < 10 ^ (N + j)) :
    Plain (txt (plainL neg m N j)) neg.toNat ∧ (rs (txt (plainL neg m N j)) neg.toNat ((txt (plainL neg m N j)).size - neg.toNat)).mant = m ∧ (rs (txt (plainL neg m N j)) neg.toNat ((txt (plainL neg m N j)).size - neg.toNat)).exp = (if m = 0 then 0 else -(j : Int)) := by
  have hsg := plainL_sign neg
  refine dec_core _ neg m N j ?_ hN hfew hj hm (plainL_int neg m N j) ?_ ?_
  · rw [txt_size]; unfold plainL; rw [if_neg (show ¬ j = 0 by omega), List.length_append, List.length_append, hsg, digs_length, List.length_cons, digs_length]; omega
  · intro h
    rw [txt_get]
    unfold plainL
    rw [List.getElem_append_right (by rw [List.length_append, hsg, digs_length]; omega)]
    have e : neg.toNat + N - ((if neg then [45] else [] : List UInt8) ++ digs (m / 10 ^ j) N).length = 0 := by rw [List.length_append, hsg, digs_length]; omega
    simp only [e]
    simp [show ¬ j = 0 by omega]
  · intro i hi h
    rw [txt_get]
    unfold plainL
    rw [List.getElem_append_right (by rw [List.length_append, hsg, digs_length]; omega)]
    have e : neg.toNat + (N + 1 + i) - ((if neg then [45] else [] : List UInt8) ++ digs (m / 10 ^ j) N).length = i + 1 := by rw [List.length_append, hsg, digs_length]; omega
    simp only [e, if_neg (show ¬ j = 0 by omega), List.getElem_cons_succ]
    rw [digs_get, digit_nat]
theorem plainL_dec (neg : Bool) (m N j : Nat) (hN : 0 < N) (hfew : N + j ≤ 17) (hj : j ≤ 15) (hm : m < 10 ^ (N + j)) (hs : m < 4503599627370496) : Dec (txt (plainL neg m N j)) neg m j := by
  rcases Nat.eq_zero_or_pos j with rfl | hj0
  · refine whole_txt _ neg m N ?_ hN (by omega) (by simpa using hm) hs (plainL_min neg m N 0) (fun i hi h => ?_)
    · rw [txt_size]; unfold plainL; simp [plainL_sign neg, digs_length]
    · rw [plainL_int neg m N 0 i hi h]; congr 4
  · obtain ⟨h1, h2, h3⟩ := plainL_core neg m N j hN hfew hj hj0 hm
    exact ⟨h1, plainL_min neg m N j, h2, h3, hs, hj⟩

/-- The noughts at the end of M/100's digits. -/
def tails (M : Nat) : Nat := if M % 100 = 0 then 0 else if M % 10 = 0 then 1 else 2
theorem tails_le (M : Nat) : tails M ≤ 2 := by unfold tails; split <;> (try split) <;> omega
theorem tails_mul (M : Nat) : M = 10 ^ (2 - tails M) * (M / 10 ^ (2 - tails M)) := by
  unfold tails; split <;> (try split) <;> simp <;> omega
def intN (M : Nat) : Nat := if 2 < Lib.nDigits M then Lib.nDigits M - 2 else 1
theorem intN_pos (M : Nat) : 0 < intN M := by unfold intN; split <;> omega
theorem intN_digs (M : Nat) : (if 2 < Lib.nDigits M then digs (M / 10 ^ 2) (Lib.nDigits M - 2) else [48]) = digs (M / 10 ^ 2) (intN M) := by
  unfold intN
  split
  · rfl
  · have h2 := Lib.lt_pow_nDigits M
    have h3 : 10 ^ Lib.nDigits M ≤ 10 ^ 2 := Nat.pow_le_pow_right (by omega) (by omega)
    rw [Nat.div_eq_of_lt (by omega)]; rfl
theorem intN_lt (M : Nat) : M < 10 ^ (intN M + 2) := by
  have h2 := Lib.lt_pow_nDigits M
  have h3 : 10 ^ Lib.nDigits M ≤ 10 ^ (intN M + 2) := Nat.pow_le_pow_right (by omega) (by unfold intN; split <;> omega)
  omega
theorem shown_plain (neg : Bool) (M : Nat) : Shown neg M 2 (txt (plainL neg (M / 10 ^ (2 - tails M)) (intN M) (tails M))) := by
  have ht := tails_le M
  refine ⟨tails M, ht, fun i h1 h2 => ?_, fun h => ?_, ?_⟩
  · unfold tails at h1
    have : i = 0 ∨ i = 1 := by omega
    rcases this with rfl | rfl
    · split at h1
      · simp; omega
      · split at h1 <;> omega
    · split at h1
      · simp; omega
      · split at h1
        · simp; omega
        · omega
  · unfold tails at h ⊢
    split at h
    · omega
    · split at h
      · rw [if_neg (by assumption), if_pos (by assumption)]; simp; omega
      · rw [if_neg (by assumption), if_neg (by assumption)]; simp; omega
  · unfold plainL
    rw [intN_digs, Nat.div_div_eq_div_mul, ← Nat.pow_add, show 2 - tails M + tails M = 2 by omega]
    congr 2
    split
    · rfl
    · congr 1
      have := digs_take M (tails M) (2 - tails M)
      rw [show tails M + (2 - tails M) = 2 by omega] at this
      exact this.symm
/-- The struck text of M/100. -/
theorem struck_plain (neg : Bool) (M : Nat) (r : ByteArray) (h : Struck (txt (fixText neg M 2)) r) : r = txt (plainL neg (M / 10 ^ (2 - tails M)) (intN M) (tails M)) :=
  struck_shown neg M 2 r _ (by omega) h (shown_plain neg M)
theorem plain_dec (neg : Bool) (M : Nat) (hM : M ≤ 1099511627776) : Dec (txt (plainL neg (M / 10 ^ (2 - tails M)) (intN M) (tails M))) neg (M / 10 ^ (2 - tails M)) (tails M) := by
  have ht := tails_le M
  have hN : Lib.nDigits M ≤ 13 := nDigits_le M 13 (by omega) (by omega)
  have hi : intN M ≤ 11 := by unfold intN; split <;> omega
  have hd := Nat.div_le_self M (10 ^ (2 - tails M))
  refine plainL_dec neg _ _ _ (intN_pos M) (by omega) (by omega) ?_ (by omega)
  apply Nat.div_lt_of_lt_mul
  rw [← Nat.pow_add, show 2 - tails M + (intN M + tails M) = intN M + 2 by omega]
  exact intN_lt M
theorem plain_same (neg : Bool) (M : Nat) (hM : M ≤ 1099511627776) (h0 : M = 0 → neg = false) : fdec neg (M / 10 ^ (2 - tails M)) (tails M) = fword neg M 2 := by
  unfold fword
  by_cases hz : M = 0
  · subst hz
    rw [h0 rfl, if_pos rfl]
    decide +kernel
  · rw [if_neg hz]
    have e := tails_mul M
    have ht := tails_le M
    have hpos : 0 < M / 10 ^ (2 - tails M) := by
      rcases Nat.eq_zero_or_pos (M / 10 ^ (2 - tails M)) with h | h
      · rw [h] at e; omega
      · exact h
    generalize hm : M / 10 ^ (2 - tails M) = m at *
    have h3 : tails M = 0 ∨ tails M = 1 ∨ tails M = 2 := by omega
    rcases h3 with h | h | h <;> rw [h] at e ⊢
    · rw [e]
      have : fdec neg m 0 = fint neg m := by unfold fdec; rw [if_pos (Or.inl rfl)]
      rw [this]
      exact (fdec_whole neg m 2 hpos (by omega) (by omega) (by omega)).symm
    · rw [e]
      exact (fdec_nought neg m hpos (by omega)).symm
    · rw [e]; congr 1; omega
end Go.Proofs.YtodlhjdogcpffaaDoor
