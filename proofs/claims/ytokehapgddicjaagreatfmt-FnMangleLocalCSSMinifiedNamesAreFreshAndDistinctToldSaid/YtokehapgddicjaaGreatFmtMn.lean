/- The minified names, in plain Lean: which text a number has; apart for apart numbers; no shorter for greater ones; one is always free. -/
import Derived.Test.YtokehapgddicjaaGreatFmtBase
namespace Go.Proofs.YtokehapgddicjaaGreatFmt
set_option linter.unusedVariables false
set_option linter.unusedSimpArgs false
/-- The letters behind the first one. -/
def mtail (T : List UInt8) : Nat → List UInt8
  | 0 => []
  | i + 1 => T.getD (i % T.length) 0 :: mtail T (i / T.length)
termination_by i => i
decreasing_by exact Nat.lt_succ_of_le (Nat.div_le_self _ _)
theorem mtail_zero (T : List UInt8) : mtail T 0 = [] := by rw [mtail]
theorem mtail_succ (T : List UInt8) (i : Nat) : mtail T (i + 1) = T.getD (i % T.length) 0 :: mtail T (i / T.length) := by rw [mtail]
def mname (H T : List UInt8) (i : Nat) : List UInt8 := H.getD (i % H.length) 0 :: mtail T (i / H.length)
theorem getD_inj {T : List UInt8} (hT : T.Nodup) {i j : Nat} (hi : i < T.length) (hj : j < T.length) (h : T.getD i 0 = T.getD j 0) : i = j := by
  rw [List.getD_eq_getElem?_getD, List.getD_eq_getElem?_getD, List.getElem?_eq_getElem hi, List.getElem?_eq_getElem hj] at h
  exact (List.getElem_inj hT).1 h
theorem mtail_inj {T : List UInt8} (hT : T.Nodup) (h0 : 0 < T.length) : ∀ n i j, i ≤ n → mtail T i = mtail T j → i = j := by
  intro n
  induction n with
  | zero =>
    intro i j hi h
    obtain rfl : i = 0 := by omega
    cases j with
    | zero => rfl
    | succ j => rw [mtail_zero, mtail_succ] at h; cases h
  | succ n ih =>
    intro i j hi h
    cases i with
    | zero =>
      cases j with
      | zero => rfl
      | succ j => rw [mtail_zero, mtail_succ] at h; cases h
    | succ i =>
      cases j with
      | zero => rw [mtail_zero, mtail_succ] at h; cases h
      | succ j =>
        rw [mtail_succ, mtail_succ] at h
        injection h with h1 h2
        have h3 := getD_inj hT (Nat.mod_lt i h0) (Nat.mod_lt j h0) h1
        have h4 := ih _ _ (Nat.le_trans (Nat.div_le_self _ _) (by omega)) h2
        rw [← Nat.div_add_mod i T.length, ← Nat.div_add_mod j T.length, h3, h4]
theorem mname_inj {H T : List UInt8} (hH : H.Nodup) (hT : T.Nodup) (h0 : 0 < H.length) (h1 : 0 < T.length) {i j : Nat} (h : mname H T i = mname H T j) : i = j := by
  unfold mname at h
  injection h with h2 h3
  have h4 := getD_inj hH (Nat.mod_lt i h0) (Nat.mod_lt j h0) h2
  have h5 := mtail_inj hT h1 _ _ _ (Nat.le_refl _) h3
  rw [← Nat.div_add_mod i H.length, ← Nat.div_add_mod j H.length, h4, h5]
theorem mtail_len {T : List UInt8} : ∀ n i j, i ≤ n → i ≤ j → (mtail T i).length ≤ (mtail T j).length := by
  intro n
  induction n with
  | zero =>
    intro i j hi h
    obtain rfl : i = 0 := by omega
    rw [mtail_zero]
    exact Nat.zero_le _
  | succ n ih =>
    intro i j hi h
    cases i with
    | zero => rw [mtail_zero]; exact Nat.zero_le _
    | succ i =>
      cases j with
      | zero => omega
      | succ j =>
        rw [mtail_succ, mtail_succ, List.length_cons, List.length_cons]
        exact Nat.succ_le_succ (ih _ _ (Nat.le_trans (Nat.div_le_self _ _) (by omega)) (Nat.div_le_div_right (by omega)))
theorem mname_len {H T : List UInt8} {i j : Nat} (h : i ≤ j) : (mname H T i).length ≤ (mname H T j).length :=
  Nat.succ_le_succ (mtail_len _ _ _ (Nat.le_refl _) (Nat.div_le_div_right h))
/-- Behind m there is a number whose name is not on the list; all those between are on it. -/
theorem free_slot {α : Type} [DecidableEq α] (name : Nat → α) (inj : ∀ i j, name i = name j → i = j) : ∀ (n : Nat) (l : List α) (m : Nat), l.length ≤ n → ∃ m', m ≤ m' ∧ name m' ∉ l ∧ m' ≤ m + n ∧ ∀ i, m ≤ i → i < m' → name i ∈ l := by
  intro n
  induction n with
  | zero =>
    intro l m hl
    obtain rfl : l = [] := List.length_eq_zero_iff.1 (by omega)
    exact ⟨m, Nat.le_refl _, by simp, Nat.le_refl _, fun i h1 h2 => by omega⟩
  | succ n ih =>
    intro l m hl
    by_cases h : name m ∈ l
    · have hlt : (l.filter (fun s => decide (s ≠ name m))).length < l.length := by
        rcases Nat.lt_or_ge (l.filter (fun s => decide (s ≠ name m))).length l.length with h1 | h1
        · exact h1
        · have h2 := List.length_filter_le (fun s => decide (s ≠ name m)) l
          have h3 := List.length_filter_eq_length_iff.1 (Nat.le_antisymm h2 h1) _ h
          simp at h3
      obtain ⟨m', h1, h2, h3, h4⟩ := ih (l.filter (fun s => decide (s ≠ name m))) (m + 1) (by omega)
      refine ⟨m', by omega, fun hm => h2 (List.mem_filter.2 ⟨hm, ?_⟩), by omega, fun i hi hi2 => ?_⟩
      · exact decide_eq_true (fun e => by have := inj _ _ e; omega)
      · by_cases he : i = m
        · subst he; exact h
        · exact (List.mem_filter.1 (h4 i (by omega) hi2)).1
    · exact ⟨m, Nat.le_refl _, h, by omega, fun i h1 h2 => by omega⟩
end Go.Proofs.YtokehapgddicjaaGreatFmt
