/- The law's pieces as a list; what they come to. -/
import Derived.Test.YtdoakedpkjlipaaFmtK3
namespace Go.Proofs.YtdoakedpkjlipaaFmt
open Go.RowKit
set_option linter.unusedVariables false
/-- The pieces out of the cloned rows. -/
def psOf (n : Nat) (A : Nat → Option Addr) (N C : Nat → Nat) (D : Nat → Nat → UInt8) (idxZ kdsZ : Nat → Int) : List PD :=
  (List.range n).map fun i => ⟨A i, N i, C i, D i, (idxZ i).toNat, (kdsZ i).toNat⟩
section
variable (n : Nat) (A : Nat → Option Addr) (N C : Nat → Nat) (D : Nat → Nat → UInt8) (idxZ kdsZ : Nat → Int)
theorem psOf_len : (psOf n A N C D idxZ kdsZ).length = n := by simp [psOf]
theorem psOf_get (k : Nat) (h : k < n) : (psOf n A N C D idxZ kdsZ)[k]'(by rw [psOf_len]; exact h) = ⟨A k, N k, C k, D k, (idxZ k).toNat, (kdsZ k).toNat⟩ := by simp [psOf]
theorem psOf_take (k : Nat) (h : k < n) : (psOf n A N C D idxZ kdsZ).take (k + 1) = (psOf n A N C D idxZ kdsZ).take k ++ [⟨A k, N k, C k, D k, (idxZ k).toNat, (kdsZ k).toNat⟩] := by
  rw [List.take_add_one, List.getElem?_eq_getElem (by rw [psOf_len]; exact h), psOf_get n A N C D idxZ kdsZ k h]
  rfl
theorem out_le (pub : ByteArray) (R : Nat → ByteArray) (hk : ∀ i, i < n → 0 ≤ kdsZ i) : ∀ k, k ≤ n → (outOf pub R ((psOf n A N C D idxZ kdsZ).take k)).length ≤ unf pub.size R N idxZ kdsZ k
  | 0, _ => by simp [outOf]
  | k + 1, h => by
    have ih := out_le pub R hk k (by omega)
    rw [psOf_take n A N C D idxZ kdsZ k (by omega), outOf_snoc, List.length_append, List.length_append, bytes_len]
    have h0 := hk k (by omega)
    unfold unf PD.text
    dsimp only
    by_cases h2 : kdsZ k = 2
    · have e : (kdsZ k).toNat = 2 := by omega
      rw [if_pos h2, if_pos e]
      have := joinL_le pub.data.toList (R (idxZ k).toNat).data.toList
      have h3 := size_list pub
      have h4 := size_list (R (idxZ k).toNat)
      omega
    · have e : ¬ (kdsZ k).toNat = 2 := by omega
      rw [if_neg h2, if_neg e]
      simp only [List.length_nil]
      omega
theorem out_le_all (pub : ByteArray) (R : Nat → ByteArray) (hk : ∀ i, i < n → 0 ≤ kdsZ i) : (outOf pub R (psOf n A N C D idxZ kdsZ)).length ≤ unf pub.size R N idxZ kdsZ n := by
  have h := out_le n A N C D idxZ kdsZ pub R hk n (Nat.le_refl _)
  rwa [List.take_of_length_le (by rw [psOf_len]; exact Nat.le_refl _)] at h
theorem rowAt_congr5 {w : World} {a : Option Addr} {n : Nat} {f g : Nat → Value} (h : RowAt w a n f) (hfg : ∀ i, i < n → f i = g i) : RowAt w a n g := fun h0 => by
  obtain ⟨b, o, h1, h2⟩ := h h0
  exact ⟨b, o, h1, fun i hi => by rw [← hfg i hi]; exact h2 i hi⟩
theorem psOf_d (i : Nat) (hi : i < n) : slcAt A N C i = dRow (psOf n A N C D idxZ kdsZ) i := by simp [dRow, psOf, hi]
theorem psOf_i (i : Nat) (hi : i < n) (h : 0 ≤ idxZ i) : intAt .u32 idxZ i = iRow (psOf n A N C D idxZ kdsZ) i := by simp [iRow, psOf, hi, Int.toNat_of_nonneg h]
theorem psOf_k (i : Nat) (hi : i < n) (h : 0 ≤ kdsZ i) : intAt .u8 kdsZ i = kRow (psOf n A N C D idxZ kdsZ) i := by simp [kRow, psOf, hi, Int.toNat_of_nonneg h]
/-- The pieces are in order. -/
theorem psOf_pieces {w : World} {pa : Option Addr} {m : Nat} (hrow : RowAt w pa (n * 3) (fun i => (cellsP (psOf n A N C D idxZ kdsZ)).getD i undef)) (hN : ∀ i, i < n → N i ≤ 1048576) (hb : ∀ i, i < n → N i ≤ C i ∧ C i ≤ maxLen ∧ RowAt w (A i) (N i) (byteAt (D i)))
    (hi : ∀ i, i < n → 0 ≤ idxZ i ∧ idxZ i < 4294967296) (hk : ∀ i, i < n → 0 ≤ kdsZ i ∧ kdsZ i < 256) (hok : ∀ i, i < n → kdsZ i ≠ 1 ∧ (kdsZ i = 2 → idxZ i < m)) : Pieces w pa n m (psOf n A N C D idxZ kdsZ) := by
  refine ⟨psOf_len n A N C D idxZ kdsZ, hrow, fun p hp => ?_⟩
  unfold psOf at hp
  obtain ⟨i, hi', rfl⟩ := List.mem_map.1 hp
  have hlt : i < n := List.mem_range.1 hi'
  obtain ⟨h1, h2, h3⟩ := hb i hlt
  obtain ⟨h4, h5⟩ := hok i hlt
  have h6 := hi i hlt
  have h7 := hk i hlt
  dsimp only
  exact ⟨hN i hlt, h1, h2, h3, by omega, by omega, fun h => by have := h5 (by omega); omega, by omega⟩
end
end Go.Proofs.YtdoakedpkjlipaaFmt
