/- The two texts are one: FormatFloat's, struck, is the shortest plain decimal. -/
import Derived.Test.YtodlhjdogcpffaaDoorFmtFF
import Derived.Test.YtodlhjdogcpffaaDoorDecWalk
namespace Go.Proofs.YtodlhjdogcpffaaDoor
open Go.RowKit

theorem fmtText_fix (m k : Nat) (neg : Bool) (hk : 0 < k) (h0 : m = 0 → neg = false) : fmtText neg m k = fixText neg m k := by
  unfold fmtText
  split
  · rename_i h
    subst h
    rw [h0 rfl]
    unfold fixText
    have : Lib.nDigits 0 = 1 := Lib.nDigits_small (by omega)
    rw [this, if_neg (by omega : ¬ k < 1)]
    rfl
  · rfl

theorem struck_shown (neg : Bool) (m k : Nat) (r s : ByteArray) (hk : 0 < k) (h1 : Struck (txt (fixText neg m k)) r) (h2 : Shown neg m k s) : r = s := by
  obtain ⟨j, hj, hz, hl, rfl⟩ := h2
  unfold fixText at h1
  generalize (if neg then [45] else []) ++ (if k < Lib.nDigits m then digs (m / 10 ^ k) (Lib.nDigits m - k) else [48]) = H at *
  have hlen : (H ++ [46] ++ digs m k).length = H.length + 1 + k := by simp [digs_length]; omega
  obtain ⟨n, hn, hn0, hr⟩ := h1
  have hle := hn.le
  rw [txt_size, hlen] at hle
  have hdot : ∀ h : H.length < (txt (H ++ [46] ++ digs m k)).size, (txt (H ++ [46] ++ digs m k))[H.length].toNat = 46 := by
    intro h
    rw [txt_get, List.getElem_append_left (by simp), List.getElem_append_right (by omega)]
    simp
  have hdig : ∀ i (hi : i < k) (h : H.length + 1 + i < (txt (H ++ [46] ++ digs m k)).size), (txt (H ++ [46] ++ digs m k))[H.length + 1 + i].toNat = 48 + m / 10 ^ (k - 1 - i) % 10 := by
    intro i hi h
    rw [txt_get, List.getElem_append_right (by simp)]
    have e : (digs m k)[H.length + 1 + i - (H ++ [46]).length]'(by simp [digs_length]; omega) = (digs m k)[i]'(by rw [digs_length]; exact hi) := by
      congr 1; simp
    rw [e, digs_get, digit_nat]
  have hn1 : H.length < n := by
    rcases Nat.lt_or_ge H.length n with h | h
    · exact h
    · have := hn.zero H.length (by rw [txt_size, hlen]; omega) h
      rw [hdot] at this
      omega
  obtain ⟨j', rfl⟩ : ∃ j', n = H.length + 1 + j' := ⟨n - (H.length + 1), by omega⟩
  have hj' : j' ≤ k := by omega
  have hjj : j' = j := by
    rcases Nat.lt_trichotomy j' j with h | h | h
    · exfalso
      have h3 := hn.zero (H.length + 1 + (j - 1)) (by rw [txt_size, hlen]; omega) (by omega)
      rw [hdig (j - 1) (by omega)] at h3
      have h4 := hl (by omega)
      have e : k - j = k - 1 - (j - 1) := by omega
      rw [e] at h4
      omega
    · exact h
    · exfalso
      have h3 := hn.last (by omega) (by rw [txt_size, hlen]; omega)
      have e : H.length + 1 + j' - 1 = H.length + 1 + (j' - 1) := by omega
      have h4 := hdig (j' - 1) (by omega) (by rw [txt_size, hlen]; omega)
      have h5 := hz (j' - 1) (by omega) (by omega)
      rw [h5] at h4
      apply h3
      simp only [e]
      exact h4
  subst hjj
  rcases Nat.eq_zero_or_pos j' with rfl | hj0
  · rw [if_pos rfl, List.append_nil]
    rcases hr with ⟨hh, _, rfl⟩ | ⟨hh, hb, _⟩
    · rw [txt_extract, List.drop_zero]
      congr 1
      simp
    · exfalso
      apply hb
      exact hdot (by rw [txt_size, hlen]; omega)
  · rw [if_neg (by omega)]
    rcases hr with ⟨hh, hb, _⟩ | ⟨hh, hb, rfl⟩
    · exfalso
      have e : H.length + 1 + j' - 1 = H.length + 1 + (j' - 1) := by omega
      have h4 := hdig (j' - 1) (by omega) (by rw [txt_size, hlen]; omega)
      simp only [e] at hb
      omega
    · rw [txt_extract, List.drop_zero]
      congr 1
      rw [List.append_assoc, List.take_append, List.take_of_length_le (by omega)]
      have e : H.length + 1 + j' - H.length = j' + 1 := by omega
      rw [e]
      rfl
end Go.Proofs.YtodlhjdogcpffaaDoor
