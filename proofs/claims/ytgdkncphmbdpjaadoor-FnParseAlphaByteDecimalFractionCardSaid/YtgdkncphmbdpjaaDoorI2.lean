/- The text that zzItoa_b2 makes is a whole number's text. -/
import Derived.Test.YtgdkncphmbdpjaaDoorI1
namespace Go.Proofs.YtgdkncphmbdpjaaDoor
open Go.RowKit

theorem whole_of (s : ByteArray) (neg : Bool) (v N : Nat) (hsz : s.size = neg.toNat + N) (hN : 0 < N) (hN18 : N ≤ 18) (hv : v < 10 ^ N) (hvs : v < 4503599627370496) (hm : neg = true → ∀ h : 0 < s.size, s[0].toNat = 45)
    (hc : ∀ j (h : neg.toNat + j < s.size), s[neg.toNat + j].toNat = 48 + v / 10 ^ (N - 1 - j) % 10) : Whole s neg v := by
  generalize hk : neg.toNat = k0 at *
  have key : ∀ n, n ≤ N → (rs s k0 n).dot = false ∧ (0 < n → (rs s k0 n).sd = true) ∧ ((rs s k0 n).nd = 0 → (rs s k0 n).mant = 0) ∧ (rs s k0 n).mant = v / 10 ^ (N - n) := by
    intro n
    induction n with
    | zero => intro _; simp [rs, Nat.div_eq_of_lt hv]
    | succ n ih =>
      intro hn
      obtain ⟨i1, i2, i3, i4⟩ := ih (by omega)
      rw [rs_succ s k0 n (by omega), hc n (by omega)]
      have e1 : v / 10 ^ (N - n) = v / 10 ^ (N - 1 - n) / 10 := by
        rw [Nat.div_div_eq_div_mul, ← Nat.pow_succ]; congr 2; omega
      have e2 : N - (n + 1) = N - 1 - n := by omega
      rw [e1] at i4
      rw [e2]
      generalize v / 10 ^ (N - 1 - n) = D at *
      generalize rs s k0 n = r at *
      unfold RS.step
      rw [if_neg (by omega)]
      split
      · rename_i h
        refine ⟨i1, fun _ => rfl, i3, ?_⟩
        have := i3 h.2
        dsimp only
        omega
      · refine ⟨i1, fun _ => rfl, fun h => by simp at h, ?_⟩
        dsimp only
        omega
  obtain ⟨j1, j2, j3, j4⟩ := key N (Nat.le_refl _)
  have hsub : s.size - k0 = N := by omega
  rw [Nat.sub_self, Nat.pow_zero, Nat.div_one] at j4
  refine ⟨?_, hm, ?_, ?_, hvs⟩
  · rw [hk]
    refine ⟨by omega, by omega, by rw [hsub]; exact j2 hN, fun n hn => Or.inr ?_⟩
    rw [hc n hn]
    omega
  · rw [hk, hsub]; exact j4
  · rw [hk, hsub]
    unfold RS.exp
    rw [j1]
    split
    · rfl
    · simp

theorem digs_get (v : Nat) : ∀ n j (h : j < (digs v n).length), (digs v n)[j] = UInt8.ofNat (48 + v / 10 ^ (n - 1 - j) % 10)
  | 0, j, h => absurd h (Nat.not_lt_zero _)
  | n + 1, 0, h => by simp [digs]
  | n + 1, j + 1, h => by
    have := digs_get v n j (by rw [digs_length] at h ⊢; omega)
    simp only [digs, List.getElem_cons_succ]
    have e : n + 1 - 1 - (j + 1) = n - 1 - j := by omega
    rw [this, e]
theorem digit_nat (D : Nat) : (UInt8.ofNat (48 + D % 10)).toNat = 48 + D % 10 := by
  rw [UInt8.toNat_ofNat']; omega

theorem whole_pos (v n : Nat) (h0 : 0 < n) (h1 : n ≤ 18) (h2 : v < 10 ^ n) (h3 : v < 4503599627370496) : Whole ⟨(digs v n).toArray⟩ false v := by
  have hl := digs_length v n
  refine whole_of _ false v n (by show (digs v n).toArray.size = _; simp [hl]) h0 h1 h2 h3 (fun h => by cases h) (fun j hj => ?_)
  have hj' : j < (digs v n).length := by
    have : (⟨(digs v n).toArray⟩ : ByteArray).size = (digs v n).length := by show (digs v n).toArray.size = _; simp
    simpa [this] using hj
  have e : (⟨(digs v n).toArray⟩ : ByteArray)[false.toNat + j] = (digs v n)[j] := by
    show (digs v n).toArray[false.toNat + j]'_ = _
    simp
  rw [e, digs_get, digit_nat]

theorem whole_neg (v n : Nat) (h0 : 0 < n) (h1 : n ≤ 18) (h2 : v < 10 ^ n) (h3 : v < 4503599627370496) : Whole ⟨((45 : UInt8) :: digs v n).toArray⟩ true v := by
  have hl := digs_length v n
  have hsz : (⟨((45 : UInt8) :: digs v n).toArray⟩ : ByteArray).size = n + 1 := by show ((45 : UInt8) :: digs v n).toArray.size = _; simp [hl]
  refine whole_of _ true v n (by rw [hsz]; exact Nat.add_comm _ _) h0 h1 h2 h3 (fun _ _ => rfl) (fun j hj => ?_)
  have hj' : j < (digs v n).length := by rw [hsz] at hj; simp at hj; omega
  have e : (⟨((45 : UInt8) :: digs v n).toArray⟩ : ByteArray)[true.toNat + j] = (digs v n)[j] := by
    show ((45 : UInt8) :: digs v n).toArray[true.toNat + j]'_ = _
    simp [Nat.add_comm 1 j]
  rw [e, digs_get, digit_nat]
end Go.Proofs.YtgdkncphmbdpjaaDoor
