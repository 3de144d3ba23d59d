/- The row of symbols that the harness makes: what it holds behind k of them. -/
import Derived.Test.YtokehapgddicjaaGreatFmtB6n
namespace Go.Proofs.YtokehapgddicjaaGreatFmt
open Go.RowKit
set_option linter.unusedVariables false
set_option linter.unusedSimpArgs false
def symZ : Array Value := #[.pointer none, .string ByteArray.empty, .int .u32 0, .int .u32 0, .int .u32 0, .int .u32 0, .int .u32 0, .int .u16 0, .int .u8 0, .int .u8 0]
def symE (S : Nat → ByteArray) (B : Nat → Bool) (C : Nat → Int) : Option Nat → List Value
  | some i => symL S B C i
  | none => symZ.toList
theorem symE_len (S : Nat → ByteArray) (B : Nat → Bool) (C : Nat → Int) : ∀ x, (symE S B C x).length = 10
  | some i => rfl
  | none => rfl
def symTo (n k : Nat) : List (Option Nat) := (List.range n).map (fun i => if i < k then some i else none)
theorem symTo_len (n k : Nat) : (symTo n k).length = n := by simp [symTo]
theorem symTo_at (n k i : Nat) (h : i < n) : (symTo n k)[i]'(by rw [symTo_len]; exact h) = if i < k then some i else none := by simp [symTo]
theorem made_at (z : Array Value) (n j : Nat) (h : j < n) : (madeCells z n).toList[j]? = some (z[j % z.size]!) := by
  simp [madeCells, h]
theorem sym_zero (S : Nat → ByteArray) (B : Nat → Bool) (C : Nat → Int) (n : Nat) : (madeCells symZ (n * 10)).toList = flat (symE S B C) (symTo n 0) := by
  refine flat_ext (symE_len S B C) (by rw [symTo_len, Array.length_toList, size_madeCells]) fun i r hi hr => ?_
  have hin : i < n := by rw [symTo_len] at hi; exact hi
  rw [made_at _ _ _ (by omega), symTo_at _ _ _ hin, if_neg (by omega)]
  have h1 : (i * 10 + r) % symZ.size = r := by
    show (i * 10 + r) % 10 = r
    omega
  rw [h1]
  show some (symZ[r]!) = symZ.toList[r]?
  have hr2 : r < symZ.size := hr
  rw [getElem!_pos symZ r hr2, Array.getElem?_toList, Array.getElem?_eq_getElem hr2]
theorem sym_set (S : Nat → ByteArray) (B : Nat → Bool) (C : Nat → Int) (n k : Nat) (hk : k < n) :
    ((((((flat (symE S B C) (symTo n k)).set (k * 10 + 1) (.string (S k))).set (k * 10 + 4) (.int .u32 (C k))).set (k * 10 + 2) (.int .u32 4294967295)).set (k * 10 + 3) (.int .u32 4294967295)).set (k * 10 + 8) (.int .u8 (if B k then 25 else 26))) = flat (symE S B C) (symTo n (k + 1)) := by
  refine flat_ext (symE_len S B C) (by simp only [List.length_set]; rw [flat_len (symE_len S B C), symTo_len, symTo_len]) fun i r hi hr => ?_
  have hin : i < n := by rw [symTo_len] at hi; exact hi
  have hold := flat_at (symE_len S B C) (symTo n k) i r (by rw [symTo_len]; exact hin) hr
  have hln : (flat (symE S B C) (symTo n k)).length = n * 10 := by rw [flat_len (symE_len S B C), symTo_len]
  rw [symTo_at _ _ _ hin] at hold
  rw [symTo_at _ _ _ hin]
  by_cases e : i = k
  · subst e
    rw [show (if i < i then some i else none) = (none : Option Nat) from if_neg (by omega)] at hold
    rw [show (if i < i + 1 then some i else none) = some i from if_pos (by omega)]
    have hb : i * 10 + 10 ≤ n * 10 := by omega
    simp only [symE, symL]
    generalize (if B i = true then (25 : Int) else 26) = z
    have h10 : r = 0 ∨ r = 1 ∨ r = 2 ∨ r = 3 ∨ r = 4 ∨ r = 5 ∨ r = 6 ∨ r = 7 ∨ r = 8 ∨ r = 9 := by omega
    rcases h10 with rfl | rfl | rfl | rfl | rfl | rfl | rfl | rfl | rfl | rfl <;>
      simp only [List.getElem?_set, hold, List.length_set, hln] <;>
      (simp [symE, symZ]; try omega)
  · have hne : ∀ c, c < 10 → k * 10 + c ≠ i * 10 + r := fun c hc => by omega
    rw [List.getElem?_set_ne (hne 8 (by decide)), List.getElem?_set_ne (hne 3 (by decide)), List.getElem?_set_ne (hne 2 (by decide)), List.getElem?_set_ne (hne 4 (by decide)), List.getElem?_set_ne (hne 1 (by decide)), hold]
    by_cases hlt : i < k
    · rw [show (if i < k then some i else none) = some i from if_pos hlt, show (if i < k + 1 then some i else none) = some i from if_pos (by omega)]
    · rw [show (if i < k then some i else none) = (none : Option Nat) from if_neg hlt, show (if i < k + 1 then some i else none) = (none : Option Nat) from if_neg (by omega)]
/-- A map of refs that holds what the list says, read back into the two rows. -/
def outS (B : Nat → Bool) (J : Nat → Nat) (i : Nat) : ByteArray := if B i then ByteArray.empty else nm (J i)
def hasB (B : Nat → Bool) (i : Nat) : Bool := !B i
end Go.Proofs.YtokehapgddicjaaGreatFmt
