/- The text of a whole number and a half. -/
import Derived.Test.YtkajkfopnkgoaaaDoorItoa
import Derived.Test.YtkajkfopnkgoaaaDoorDecText
namespace Go.Proofs.YtkajkfopnkgoaaaDoor
open Go.RowKit

theorem IsInt.half {n : Int} {t : ByteArray} (h : IsInt n t) (hs : n.natAbs < 10000000000000000) (hs2 : n.natAbs < 400000000000000) : Dec (t ++ { data := #[46, 53] }) (decide (n < 0)) (10 * n.natAbs + 5) 1 := by
  obtain ⟨N, h1, h2, h3, h4, rfl⟩ := h
  have hN : N ≤ 16 := by
    have h5 : (10 : Nat) ^ (N - 1) < 10 ^ 16 := by omega
    have := (Nat.pow_lt_pow_iff_right (by omega : 1 < 10)).1 h5
    omega
  have hl := digs_length n.natAbs N
  generalize hb : (if n < 0 then [(45 : UInt8)] else []) = pre
  have hpl : pre.length = (decide (n < 0)).toNat := by rw [← hb]; by_cases hn : n < 0 <;> simp [hn]
  have hpm : decide (n < 0) = true → pre = [45] := fun hn => by rw [← hb, if_pos (by simpa using hn)]
  generalize decide (n < 0) = neg at *
  generalize n.natAbs = v at *
  have hsz : ((⟨(pre ++ digs v N).toArray⟩ : ByteArray) ++ { data := #[46, 53] } : ByteArray).size = neg.toNat + N + 1 + 1 := by
    rw [ByteArray.size_append]
    show (pre ++ digs v N).toArray.size + 2 = _
    simp [hl, hpl]
  have hdat : ∀ i (h : i < ((⟨(pre ++ digs v N).toArray⟩ : ByteArray) ++ { data := #[46, 53] } : ByteArray).size), ((⟨(pre ++ digs v N).toArray⟩ : ByteArray) ++ { data := #[46, 53] } : ByteArray)[i] = (pre ++ digs v N ++ [46, 53])[i]'(by rw [hsz] at h; simp [hl, hpl]; omega) := by
    intro i h
    simp [ByteArray.getElem_eq_getElem_data, ByteArray.data_append]
  have hp : 10 ^ (N + 1) = 10 ^ N * 10 := Nat.pow_succ ..
  refine dec_of _ neg (10 * v + 5) N 1 hsz h1 (by omega) (by omega) (by rw [hp]; omega) (by omega) ?_ ?_ ?_ ?_
  · intro hn h
    rw [hdat]
    have := hpm hn
    subst this
    rfl
  · intro j hj h
    rw [hdat]
    have e : (pre ++ digs v N ++ [46, 53])[neg.toNat + j]'(by simp [hl, hpl]; omega) = (digs v N)[j]'(by omega) := by
      rw [List.getElem_append_left (by simp [hl, hpl]; omega), List.getElem_append_right (by omega)]
      congr 1; omega
    rw [e, digs_get, digit_nat]
    have : v / 10 ^ (N - 1 - j) = (10 * v + 5) / 10 ^ (N + 1 - 1 - j) := by
      have e1 : (10 : Nat) ^ (N + 1 - 1 - j) = 10 * 10 ^ (N - 1 - j) := by rw [← Nat.pow_succ']; congr 1; omega
      rw [e1, ← Nat.div_div_eq_div_mul]
      congr 1; omega
    rw [this]
  · intro h
    rw [hdat]
    have e : (pre ++ digs v N ++ [46, 53])[neg.toNat + N]'(by simp [hl, hpl]) = ([46, 53] : List UInt8)[0] := by
      rw [List.getElem_append_right (by simp [hl, hpl])]
      congr 1; simp [hl, hpl]
    rw [e]; rfl
  · intro j hj h
    obtain rfl : j = 0 := by omega
    rw [hdat]
    have e : (pre ++ digs v N ++ [46, 53])[neg.toNat + (N + 1 + 0)]'(by simp [hl, hpl]) = ([46, 53] : List UInt8)[1] := by
      rw [List.getElem_append_right (by simp [hl, hpl])]
      congr 1; simp [hl, hpl]; omega
    rw [e]
    show 53 = 48 + (10 * v + 5) / 10 ^ (1 - 1 - 0) % 10
    simp
end Go.Proofs.YtkajkfopnkgoaaaDoor
