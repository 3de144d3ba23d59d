/- FnParseColorByteIntegerPercentIgnoresScale: the law's numbers joined. -/
import Derived.Test.YtgdkncphmbdpjaaDoorP7
namespace Go.Proofs.YtgdkncphmbdpjaaDoor
open Go.RowKit

/-- The two bytes that are let: zzPercentByte_b2. -/
def percLo (p : Int) : Int := if p ≤ 0 then 0 else if 100 ≤ p then 255 else if 255 * p % 100 ≤ 50 then 255 * p / 100 else 255 * p / 100 + 1
def percHi (p : Int) : Int := if p ≤ 0 then 0 else if 100 ≤ p then 255 else if 255 * p % 100 < 50 then 255 * p / 100 else 255 * p / 100 + 1

theorem perc_split {b : Nat} {n : Int} (h : percInt b = some n) : ∃ r, floatBits .mul .f64 b 4612924508324914790 = some r ∧ floatToIntVal .f64 (roundBits r) .i64 = some n := by
  unfold percInt at h
  cases hr : floatBits .mul .f64 b 4612924508324914790 with
  | none => rw [hr] at h; cases h
  | some r => rw [hr] at h; exact ⟨r, rfl, h⟩

theorem perc_clamp (p : Int) (h1 : -2147483648 ≤ p) (h2 : p ≤ 2147483647) : ∃ n, percInt (fint (decide (p < 0)) p.natAbs) = some n ∧ (clampI n = percLo p ∨ clampI n = percHi p) := by
  rcases Int.lt_or_le p 0 with hneg | hpos
  · obtain ⟨n, hn, _⟩ := perc_any true p.natAbs (by omega) (by omega)
    have e : decide (p < 0) = true := by simp; exact hneg
    refine ⟨_, by rw [e]; exact hn, Or.inl ?_⟩
    unfold clampI percLo
    rw [if_pos (by omega : p ≤ 0)]
    simp only [if_true]
    split
    · rfl
    · split <;> omega
  · have e : decide (p < 0) = false := by simp; exact hpos
    rw [e]
    rcases Int.lt_or_le p 100 with hl | hg
    · have := perc_small ⟨p.natAbs, by omega⟩
      unfold percOk at this
      dsimp only at this
      split at this
      · rename_i n hn
        refine ⟨n, hn, ?_⟩
        simp only [Bool.or_eq_true, Bool.and_eq_true, beq_iff_eq, decide_eq_true_eq] at this
        unfold clampI percLo percHi
        rw [if_neg (by omega : ¬ 100 ≤ p)]
        omega
      · cases this
    · obtain ⟨n, hn, hb⟩ := perc_any false p.natAbs (by omega) (by omega)
      have := hb (by omega)
      refine ⟨_, hn, Or.inl ?_⟩
      unfold clampI percLo
      rw [if_neg (by omega : ¬ p ≤ 0), if_pos hg]
      simp only [Bool.false_eq_true, if_false]
      rw [if_neg (by omega)]
      split <;> omega
end Go.Proofs.YtgdkncphmbdpjaaDoor
