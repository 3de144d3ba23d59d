/- What the joiner's entries spell. -/
import Derived.Test.YtdoakedpkjlipaaFmtJ9
namespace Go.Proofs.YtdoakedpkjlipaaFmt
open Go.RowKit
set_option linter.unusedVariables false

theorem rowAt_congr {w : World} {a : Option Addr} {n : Nat} {f g : Nat → Value} (h : RowAt w a n f) (e : ∀ i, i < n → f i = g i) : RowAt w a n g := fun h0 => by
  obtain ⟨b, o, h1, h2⟩ := h h0
  exact ⟨b, o, h1, fun i hi => by rw [← e i hi]; exact h2 i hi⟩
theorem bytes_get (p : PD) (i : Nat) (h : i < p.n) : p.bytes[i]? = some (p.d i) := by simp [PD.bytes, h]
theorem spells_snoc {w : World} {pub : ByteArray} {R : Nat → ByteArray} {ps : List PD} {p : PD} (h : Spells w (ssOf pub R 0 ps) (bsOf pub R 0 ps) (outOf pub R ps)) (hc : p.n ≤ p.c) (hr : RowAt w p.a p.n (byteAt p.d)) :
    Spells w (ssOf pub R 0 (ps ++ [p])) (bsOf pub R 0 (ps ++ [p])) (outOf pub R (ps ++ [p])) := by
  rw [ssOf_snoc, bsOf_snoc, outOf_snoc]
  simp only [Nat.zero_add]
  generalize ssOf pub R 0 ps = ss at *
  generalize bsOf pub R 0 ps = bs at *
  generalize outOf pub R ps = out at *
  have hbl := bytes_len p
  refine ⟨fun e he => ?_, fun e he => ?_, fun i hi => ?_⟩
  · rcases List.mem_append.1 he with he | he
    · obtain ⟨h1, h2⟩ := h.str e he
      refine ⟨by simp only [List.length_append]; omega, fun i hi => ?_⟩
      rw [List.getElem?_append_left (by omega)]
      exact h2 i hi
    · by_cases hk : p.kd = 2
      · rw [if_pos hk] at he
        simp only [List.mem_singleton] at he
        subst he
        have ht : p.text pub R = (joinB pub (R p.idx)).data.toList := by simp [PD.text, hk, joinB_list]
        have hs := size_list (joinB pub (R p.idx))
        rw [ht]
        refine ⟨by simp only [List.length_append, hs, hbl]; omega, fun i hi => ?_⟩
        simp only
        rw [List.getElem?_append_right (by omega), List.getElem?_append_right (by omega), hbl]
        congr 1
        omega
      · rw [if_neg hk] at he
        cases he
  · rcases List.mem_append.1 he with he | he
    · obtain ⟨h1, h2, h3⟩ := h.byt e he
      refine ⟨by simp only [List.length_append]; omega, h2, rowAt_congr h3 fun i hi => ?_⟩
      simp only [outAt, List.getD_eq_getElem?_getD]
      rw [List.getElem?_append_left (by omega)]
    · simp only [List.mem_singleton] at he
      subst he
      refine ⟨by simp only [List.length_append, hbl]; omega, hc, rowAt_congr hr fun i hi => ?_⟩
      have hi' : i < p.n := hi
      have e1 : (out ++ (p.bytes ++ p.text pub R))[out.length + i]? = some (p.d i) := by
        rw [List.getElem?_append_right (by omega), show out.length + i - out.length = i by omega, List.getElem?_append_left (by rw [hbl]; exact hi'), bytes_get p i hi']
      show bv (p.d i) = bv ((out ++ (p.bytes ++ p.text pub R)).getD (out.length + i) 0)
      rw [List.getD_eq_getElem?_getD, e1]
      rfl
  · simp only [List.length_append, hbl] at hi
    by_cases h1 : i < out.length
    · rcases h.all i h1 with ⟨e, he, h2⟩ | ⟨e, he, h2⟩
      · exact Or.inl ⟨e, List.mem_append_left _ he, h2⟩
      · exact Or.inr ⟨e, List.mem_append_left _ he, h2⟩
    · by_cases h2 : i < out.length + p.n
      · exact Or.inr ⟨⟨p.a, p.n, p.c, out.length⟩, List.mem_append_right _ (by simp), by simp only; omega, by simp only; omega⟩
      · by_cases hk : p.kd = 2
        · have ht : (p.text pub R).length = (joinB pub (R p.idx)).size := by rw [← size_list]; simp [PD.text, hk, joinB_list]
          exact Or.inl ⟨(joinB pub (R p.idx), out.length + p.n), List.mem_append_right _ (by simp [hk]), by simp only; omega, by simp only; omega⟩
        · have ht : (p.text pub R).length = 0 := by simp [PD.text, hk]
          omega
theorem spells_all {w : World} {pub : ByteArray} {R : Nat → ByteArray} (ps : List PD) (h : ∀ p ∈ ps, p.n ≤ p.c ∧ RowAt w p.a p.n (byteAt p.d)) : Spells w (ssOf pub R 0 ps) (bsOf pub R 0 ps) (outOf pub R ps) := by
  have key : ∀ k, k ≤ ps.length → Spells w (ssOf pub R 0 (ps.take k)) (bsOf pub R 0 (ps.take k)) (outOf pub R (ps.take k)) := by
    intro k
    induction k with
    | zero => intro _; exact ⟨(fun e he => by cases he), (fun e he => by cases he), (fun i hi => by simp [outOf] at hi)⟩
    | succ k ih =>
      intro hk
      rw [List.take_succ_eq_append_getElem (by omega)]
      exact spells_snoc (ih (by omega)) (h _ (List.getElem_mem _)).1 (h _ (List.getElem_mem _)).2
  have := key ps.length (Nat.le_refl _)
  rwa [List.take_length] at this
end Go.Proofs.YtdoakedpkjlipaaFmt
