/- zzDec: the shortest plain decimal of m/10^d. -/
import Derived.Test.YtodlhjdogcpffaaGreatDoorTextList
import Derived.Test.YtodlhjdogcpffaaGreatDoorFmtSet
import Derived.Laws.IdiomStrings
namespace Go.Proofs.YtodlhjdogcpffaaGreatDoor
open Go.RowKit

/-- s is the shortest plain decimal of M/10^d with its sign. -/
def Shown (neg : Bool) (M d : Nat) (s : ByteArray) : Prop := ∃ j, j ≤ d ∧ (∀ i, j ≤ i → i < d → M / 10 ^ (d - 1 - i) % 10 = 0) ∧ (0 < j → M / 10 ^ (d - j) % 10 ≠ 0) ∧
  s = txt ((if neg then [45] else []) ++ (if d < Lib.nDigits M then digs (M / 10 ^ d) (Lib.nDigits M - d) else [48]) ++ (if j = 0 then [] else 46 :: (digs M d).take j))

theorem nDigits_tight (M n : Nat) (h0 : 0 < n) (h1 : M < 10 ^ n) (h2 : 10 ^ (n - 1) ≤ M) : Lib.nDigits M = n := by
  have := Lib.nDigits_unique (n - 1) M h2 (by rw [Nat.sub_add_cancel h0]; exact h1)
  omega
/-- The padded digits: before the point, behind it. -/
theorem head_digs (M d L : Nat) (_hd : 1 ≤ d) (hL : L = max (Lib.nDigits M) (d + 1)) : (digs M L).take (L - d) = (if d < Lib.nDigits M then digs (M / 10 ^ d) (Lib.nDigits M - d) else [48]) := by
  have e : L = (L - d) + d := by omega
  conv => lhs; rw [e]
  rw [Nat.add_sub_cancel, digs_take]
  by_cases h : d < Lib.nDigits M
  · rw [if_pos h]; congr 1; omega
  · rw [if_neg h]
    have h1 : L - d = 1 := by omega
    have h2 := Lib.lt_pow_nDigits M
    have h3 : 10 ^ Lib.nDigits M ≤ 10 ^ d := Nat.pow_le_pow_right (by omega) (by omega)
    rw [h1, Nat.div_eq_of_lt (by omega)]; rfl
theorem tail_digs (M d L : Nat) (hL : L = max (Lib.nDigits M) (d + 1)) : (digs M L).drop (L - d) = digs M d := by
  have e : L = (L - d) + d := by omega
  conv => lhs; rw [e]
  rw [Nat.add_sub_cancel, digs_drop]

end Go.Proofs.YtodlhjdogcpffaaGreatDoor
