/- Texts of decimals: digits, a point, digits. -/
import Derived.Test.YtodlhjdogcpffaaDoorParseFrac
namespace Go.Proofs.YtodlhjdogcpffaaDoor
open Go.RowKit

theorem dec_core (s : ByteArray) (neg : Bool) (M N k : Nat) (hsz : s.size = neg.toNat + N + 1 + k) (hN : 0 < N) (hfew : N + k ≤ 17) (hk : k ≤ 15) (hM : M < 10 ^ (N + k))
    (hc1 : ∀ j (_ : j < N) (h : neg.toNat + j < s.size), s[neg.toNat + j].toNat = 48 + M / 10 ^ (N + k - 1 - j) % 10)
    (hdot : ∀ h : neg.toNat + N < s.size, s[neg.toNat + N].toNat = 46)
    (hc2 : ∀ j (_ : j < k) (h : neg.toNat + (N + 1 + j) < s.size), s[neg.toNat + (N + 1 + j)].toNat = 48 + M / 10 ^ (k - 1 - j) % 10) : Plain s neg.toNat ∧ (rs s neg.toNat (s.size - neg.toNat)).mant = M ∧ (rs s neg.toNat (s.size - neg.toNat)).exp = (if M = 0 then 0 else -(k : Int)) := by
  generalize hk0 : neg.toNat = k0 at *
  have key : ∀ n, n ≤ N → (rs s k0 n).dot = false ∧ (0 < n → (rs s k0 n).sd = true) ∧ ((rs s k0 n).nd = 0 → (rs s k0 n).mant = 0) ∧ (rs s k0 n).mant = M / 10 ^ (N + k - n) := by
    intro n
    induction n with
    | zero => intro _; simp [rs, Nat.div_eq_of_lt hM]
    | succ n ih =>
      intro hn
      obtain ⟨i1, i2, i3, i4⟩ := ih (by omega)
      rw [rs_succ s k0 n (by omega), hc1 n (by omega) (by omega)]
      have e1 : M / 10 ^ (N + k - n) = M / 10 ^ (N + k - 1 - n) / 10 := by
        rw [Nat.div_div_eq_div_mul, ← Nat.pow_succ]; congr 2; omega
      have e2 : N + k - (n + 1) = N + k - 1 - n := by omega
      rw [e1] at i4
      rw [e2]
      generalize M / 10 ^ (N + k - 1 - n) = D at *
      generalize rs s k0 n = r at *
      unfold RS.step
      rw [if_neg (by omega)]
      split
      · rename_i h
        refine ⟨i1, fun _ => rfl, i3, ?_⟩
        have := i3 h.2
        dsimp only
        omega
      · refine ⟨i1, fun _ => rfl, fun h => by simp at h, ?_⟩
        dsimp only
        omega
  have key2 : ∀ i, i ≤ k → (rs s k0 (N + 1 + i)).dot = true ∧ (rs s k0 (N + 1 + i)).sd = true ∧ ((rs s k0 (N + 1 + i)).nd = 0 → (rs s k0 (N + 1 + i)).mant = 0) ∧ (rs s k0 (N + 1 + i)).mant = M / 10 ^ (k - i) ∧ (rs s k0 (N + 1 + i)).dp - (rs s k0 (N + 1 + i)).nd = -(i : Int) := by
    intro i
    induction i with
    | zero =>
      intro _
      obtain ⟨i1, i2, i3, i4⟩ := key N (Nat.le_refl _)
      rw [Nat.add_zero, rs_succ s k0 N (by omega), hdot (by omega)]
      have e2 : N + k - N = k - 0 := by omega
      rw [e2] at i4
      have i2' := i2 hN
      generalize rs s k0 N = r at *
      unfold RS.step
      rw [if_pos rfl]
      exact ⟨rfl, i2', i3, i4, by simp⟩
    | succ i ih =>
      intro hi
      obtain ⟨i1, i2, i3, i4, i5⟩ := ih (by omega)
      rw [← Nat.add_assoc, rs_succ s k0 (N + 1 + i) (by omega), hc2 i (by omega) (by omega)]
      have e1 : M / 10 ^ (k - i) = M / 10 ^ (k - 1 - i) / 10 := by
        rw [Nat.div_div_eq_div_mul, ← Nat.pow_succ]; congr 2; omega
      have e2 : k - (i + 1) = k - 1 - i := by omega
      rw [e1] at i4
      rw [e2]
      generalize M / 10 ^ (k - 1 - i) = D at *
      generalize rs s k0 (N + 1 + i) = r at *
      unfold RS.step
      rw [if_neg (by omega)]
      split
      · rename_i h
        have := i3 h.2
        refine ⟨i1, rfl, i3, ?_, ?_⟩
        · dsimp only; omega
        · dsimp only; omega
      · refine ⟨i1, rfl, fun h => by simp at h, ?_, ?_⟩
        · dsimp only; omega
        · dsimp only; omega
  obtain ⟨j1, j2, j3, j4, j5⟩ := key2 k (Nat.le_refl _)
  have hsub : s.size - k0 = N + 1 + k := by omega
  rw [Nat.sub_self, Nat.pow_zero, Nat.div_one] at j4
  refine ⟨?_, ?_, ?_⟩
  · refine ⟨by omega, by omega, by rw [hsub]; exact j2, fun n hn => ?_⟩
    rcases Nat.lt_trichotomy n N with h | h | h
    · right; rw [hc1 n h hn]; omega
    · subst h; left; exact ⟨hdot hn, (key n (Nat.le_refl _)).1⟩
    · obtain ⟨j, rfl⟩ : ∃ j, n = N + 1 + j := ⟨n - (N + 1), by omega⟩
      right; rw [hc2 j (by omega) hn]; omega
  · rw [hsub]; exact j4
  · rw [hsub]
    unfold RS.exp
    rw [j4, j1]
    split
    · rfl
    · simpa using j5
theorem dec_of (s : ByteArray) (neg : Bool) (M N k : Nat) (hsz : s.size = neg.toNat + N + 1 + k) (hN : 0 < N) (hfew : N + k ≤ 17) (hk : k ≤ 15) (hM : M < 10 ^ (N + k)) (hsm : M < 4503599627370496)
    (hm : neg = true → ∀ h : 0 < s.size, s[0].toNat = 45)
    (hc1 : ∀ j (_ : j < N) (h : neg.toNat + j < s.size), s[neg.toNat + j].toNat = 48 + M / 10 ^ (N + k - 1 - j) % 10)
    (hdot : ∀ h : neg.toNat + N < s.size, s[neg.toNat + N].toNat = 46)
    (hc2 : ∀ j (_ : j < k) (h : neg.toNat + (N + 1 + j) < s.size), s[neg.toNat + (N + 1 + j)].toNat = 48 + M / 10 ^ (k - 1 - j) % 10) : Dec s neg M k := by
  obtain ⟨h1, h2, h3⟩ := dec_core s neg M N k hsz hN hfew hk hM hc1 hdot hc2
  exact ⟨h1, hm, h2, h3, hsm, hk⟩
end Go.Proofs.YtodlhjdogcpffaaDoor
