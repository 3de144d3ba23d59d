/- Readings opened: rows of rows of bytes; the two tables of unicode/utf8 out of what is laid. -/
import Derived.Test.YtdoakedpkjlipaaFmtN2
import Derived.Deep.Matrix
import Derived.Lib.LaidU8T
import Derived.MakeChecks
namespace Go.Proofs.YtdoakedpkjlipaaFmt
open Go.RowKit Go.ChangeShapes Go.WideShapes
set_option linter.unusedVariables false
theorem wf_u8 {z : Int} (h : (Lit.int .u8 z).wf = true) : 0 ≤ z ∧ z < 256 := by
  simp only [Lit.wf, Bool.and_eq_true, decide_eq_true_eq] at h
  have h1 : IntKind.u8.min = 0 := by decide
  have h2 : IntKind.u8.max = 255 := by decide
  omega
theorem wf_u32 {z : Int} (h : (Lit.int .u32 z).wf = true) : 0 ≤ z ∧ z < 4294967296 := by
  simp only [Lit.wf, Bool.and_eq_true, decide_eq_true_eq] at h
  have h1 : IntKind.u32.min = 0 := by decide
  have h2 : IntKind.u32.max = 4294967295 := by decide
  omega
theorem getD_mem {l : List Int} {i : Nat} (h : i < l.length) : l.getD i 0 ∈ l := by
  rw [List.getD_eq_getElem?_getD, List.getElem?_eq_getElem h]
  exact List.getElem_mem _
section
variable {H : Type} {enc : TypeId × Value → H} {P : Program} {W : World}
theorem bytes2_of_open {T E Q : TypeId} {v : Option Addr} {n c : Nat} {d : DataW H} {ps : List MemPlace} (ht : P.underlying T = some (.slice E)) (he : P.underlying E = some (.slice Q)) (hq : P.underlying Q = some (.int .u8)) (ce : P.cellsOf E = 1) (cq : P.cellsOf Q = 1)
    (h : DataW.Trod enc P W 0 (fun _ => true) true T (.slice v n c) d ps) : n ≤ maxLen ∧ ∃ (A : Nat → Option Addr) (N C : Nat → Nat) (D : Nat → Nat → UInt8), RowAt W v n (slcAt A N C) ∧ ∀ i, i < n → RowAt W (A i) (N i) (byteAt (D i)) := by
  obtain ⟨fuel, hf⟩ := h
  rcases Deep.open_int_rows ht he hq ce cq hf with ⟨hcs, _⟩ | ⟨a, l, cp, A, L, C, Z, hcs, _, hl, hm, _, hr⟩
  · simp [Value.cells] at hcs
    obtain ⟨rfl, rfl, rfl⟩ := hcs
    exact ⟨Nat.zero_le _, fun _ => none, fun _ => 0, fun _ => 0, fun _ _ => 0, RowAt.zero _ _ _, fun i hi => absurd hi (Nat.not_lt_zero i)⟩
  · simp [Value.cells] at hcs
    obtain ⟨rfl, rfl, rfl⟩ := hcs
    refine ⟨Nat.le_trans hl hm, A, L, C, fun r i => UInt8.ofNat ((Z r).getD i 0).toNat, row_of_cells hl (fun r hr' => (hr r hr').1), fun r hr' => ?_⟩
    obtain ⟨_, h1, h2, h3, h4, h5, h6⟩ := hr r (by omega)
    cases hA : A r with
    | none =>
      have := h5 hA
      rw [show L r = 0 by omega]
      exact RowAt.zero _ _ _
    | some a' =>
      refine row_of_cells h1 (fun i hi => ?_)
      rw [(h6 a' hA).2 i hi]
      have hw := wf_u8 (h4 _ (getD_mem (l := Z r) (i := i) (by omega)))
      have e : ((UInt8.ofNat ((Z r).getD i 0).toNat).toNat : Int) = (Z r).getD i 0 := by
        rw [UInt8.toNat_ofNat']
        omega
      show some (Value.int .u8 _) = some (Value.int .u8 _)
      rw [e]
end
end Go.Proofs.YtdoakedpkjlipaaFmt
