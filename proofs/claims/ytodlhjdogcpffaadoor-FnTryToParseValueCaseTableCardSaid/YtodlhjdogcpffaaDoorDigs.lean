/- The last n decimal digits of a number, as a list of bytes. -/
namespace Go.Proofs.YtodlhjdogcpffaaDoor
/-- The last n decimal digits of v. -/
def digs (v : Nat) : Nat → List UInt8
  | 0 => []
  | n + 1 => UInt8.ofNat (48 + v / 10 ^ n % 10) :: digs v n
theorem digs_length (v : Nat) : ∀ n, (digs v n).length = n
  | 0 => rfl
  | n + 1 => by rw [digs, List.length_cons, digs_length v n]

theorem digs_get (v : Nat) : ∀ n j (h : j < (digs v n).length), (digs v n)[j] = UInt8.ofNat (48 + v / 10 ^ (n - 1 - j) % 10)
  | 0, j, h => absurd h (Nat.not_lt_zero _)
  | n + 1, 0, h => by simp [digs]
  | n + 1, j + 1, h => by
    have := digs_get v n j (by rw [digs_length] at h ⊢; omega)
    simp only [digs, List.getElem_cons_succ]
    have e : n + 1 - 1 - (j + 1) = n - 1 - j := by omega
    rw [this, e]
theorem digit_nat (D : Nat) : (UInt8.ofNat (48 + D % 10)).toNat = 48 + D % 10 := by
  rw [UInt8.toNat_ofNat']; omega

end Go.Proofs.YtodlhjdogcpffaaDoor
