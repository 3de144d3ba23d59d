/- The law over readings. -/
import Derived.Test.YtnmjfjfpedbalaaGreatDoorR12
namespace Go.Proofs.YtnmjfjfpedbalaaGreatDoor
open Go.RowKit
set_option linter.unusedVariables false
theorem wf_u8 {z : Int} (h : (Lit.int .u8 z).wf = true) : 0 ≤ z ∧ z ≤ 255 := by
  simp only [Lit.wf, Bool.and_eq_true, decide_eq_true_eq] at h
  have h1 : IntKind.u8.min = 0 := by decide
  have h2 : IntKind.u8.max = 255 := by decide
  omega
theorem wf_i8 {z : Int} (h : (Lit.int .i8 z).wf = true) : -128 ≤ z ∧ z ≤ 127 := by
  simp only [Lit.wf, Bool.and_eq_true, decide_eq_true_eq] at h
  have h1 : IntKind.i8.min = -128 := by decide
  have h2 : IntKind.i8.max = 127 := by decide
  omega
theorem law37_wf (kind : Int) (sa : Option Addr) (n sc : Nat) (S : Nat → Int) (va : Option Addr) (m vc : Nat) (V : Nat → Int) (W : World) (hk : (Lit.int .u8 kind).wf = true) (hn : n ≤ maxLen) (hs : RowAt W sa n (intAt .u8 S)) (hS : ∀ i, i < n → (Lit.int .u8 (S i)).wf = true) (hm : m ≤ maxLen) (hv : RowAt W va m (intAt .i8 V)) (hV : ∀ i, i < m → (Lit.int .i8 (V i)).wf = true) (hpv : PowVars W) :
    Calls Tryz.prog 3 #[.int .u8 kind, .slice sa n sc, .slice va m vc] W (LawOk W) :=
  law37_any kind S V sa va n sc m vc W hs hv (fun i hi => wf_u8 (hS i hi)) (fun i hi => wf_i8 (hV i hi)) hn hm (wf_u8 hk).1 (wf_u8 hk).2 hpv
end Go.Proofs.YtnmjfjfpedbalaaGreatDoor
