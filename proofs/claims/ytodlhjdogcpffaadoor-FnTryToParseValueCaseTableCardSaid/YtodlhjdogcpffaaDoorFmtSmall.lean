/- The small functions under FormatFloat: logarithms, unrounded numbers. -/
import Derived.Test.YtodlhjdogcpffaaDoorFmtRnd
import Derived.Test.YtodlhjdogcpffaaDoorParseNum
import Derived.Laws.BitsAllLaws
import Derived.Deep.QuietTactic
namespace Go.Proofs.YtodlhjdogcpffaaDoor
open Go.RowKit

theorem drewN_below (w : World) (n : Nat) : Below w.heap.size w (w.drewN n) := (Below.refl _ _).trans ⟨rfl, rfl, rfl, Nat.le_refl _, fun _ _ => rfl⟩

set_option maxRecDepth 100000 in
theorem log10_any (x : Int) (w : World) (h1 : -2000 ≤ x) (h2 : x ≤ 2000) : Calls Tryd.prog 50 #[.int .i64 x] w fun e w' => e = .returned (.int .i64 (lg10 x)) ∧ w = w' := by
  have a1 : wrap64 (x * 78913) = x * 78913 := by unfold wrap64; omega
  unfold lg10
  go_enter Tryd.func50, Tryd.ntmps50
  go_wp2
  go_ret
  exact ⟨rfl, rfl⟩

set_option maxRecDepth 100000 in
theorem log2_any (p : Nat) (w : World) (h : p ≤ 30) : Calls Tryd.prog 66 #[.int .i64 p] w fun e w' => e = .returned (.int .i64 (lg2 p : Nat)) ∧ w = w' := by
  have a1 : wrap64 ((p : Int) * 108853) = (p : Int) * 108853 := by unfold wrap64; omega
  have a2 : ((lg2 p : Nat) : Int) = (p : Int) * 108853 / 32768 := by unfold lg2; omega
  rw [a2]
  go_enter Tryd.func66, Tryd.ntmps66
  go_wp2
  go_ret
  exact ⟨rfl, rfl⟩

set_option maxRecDepth 100000 in
theorem unmin_any (x : Nat) (w : World) (h0 : 1 ≤ x) (h : x ≤ 1000000000000000000) : Calls Tryd.prog 74 #[.int .u64 x] w fun e w' => e = .returned (.int .u64 (4 * x - 2 : Nat)) ∧ w = w' := by
  have a1 : IntKind.u64.wrap ((x : Int) * 4) = (x : Int) * 4 := by rw [IntKind.wrap_u64]; omega
  have a2 : IntKind.u64.wrap ((x : Int) * 4 - 2) = (x : Int) * 4 - 2 := by rw [IntKind.wrap_u64]; omega
  have a3 : ((4 * x - 2 : Nat) : Int) = (x : Int) * 4 - 2 := by omega
  rw [a3]
  go_enter Tryd.func74, Tryd.ntmps74
  go_wp2
  go_ret
  exact ⟨rfl, rfl⟩

theorem bool2r_any (b : Bool) (w : World) : Calls Tryd.prog 99 #[.bool b] w fun e w' => e = .returned (.int .u64 b.toNat) ∧ w = w' := by
  cases b
  all_goals
    go_enter Tryd.func99, Tryd.ntmps99
    go_wp2
    go_ret
    exact ⟨rfl, rfl⟩

theorem and_one (x : Int) (h0 : 0 ≤ x) (h : x < 18446744073709551616) : bits .and .u64 x 1 = x % 2 := by
  rw [u64_and x 1 h0 h (by omega) (by omega)]
  have : x.toNat &&& (1 : Int).toNat = x.toNat % 2 := Nat.and_one_is_mod _
  rw [this]; omega

set_option maxRecDepth 100000 in
theorem roundU_any (u : Nat) (w : World) (h : u < 9223372036854775808) : Calls Tryd.prog 71 #[.int .u64 u] w fun e w' => e = .returned (.int .u64 (roundU u : Nat)) ∧ w = w' := by
  have a3 : ((roundU u : Nat) : Int) = ((u : Int) + 1 + (u : Int) / 4 % 2) / 4 := by unfold roundU; omega
  have a1 : IntKind.u64.wrap ((u : Int) + 1) = (u : Int) + 1 := by rw [IntKind.wrap_u64]; omega
  have a2 : IntKind.u64.wrap ((u : Int) + 1 + (u : Int) / 4 % 2) = (u : Int) + 1 + (u : Int) / 4 % 2 := by rw [IntKind.wrap_u64]; omega
  have a4 := and_one ((u : Int) / 4) (by omega) (by omega)
  rw [a3]
  go_enter Tryd.func71, Tryd.ntmps71
  go_wp2
  go_ret
  exact ⟨rfl, rfl⟩

theorem stick_lt (a : Nat) (b : Bool) (h : a < 18446744073709551616) : stick a b < 18446744073709551616 := by unfold stick; split <;> omega
theorem or_stick (a : Nat) (b : Bool) (h : a < 18446744073709551616) : bits .or .u64 (a : Int) (b.toNat : Int) = ((stick a b : Nat) : Int) := by
  rw [u64_or_nat a b.toNat h (by have := Bool.toNat_le b; omega), or_bool]

set_option maxRecDepth 100000 in
theorem divU_any (u : Nat) (w : World) (h : u < 18446744073709551616) : Calls Tryd.prog 75 #[.int .u64 u, .int .u64 10] w fun e w' => e = .returned (.int .u64 (divU u : Nat)) ∧ Below w.heap.size w w' := by
  have b1 : bits .or .u64 ((u : Int) / 10) ((u : Int) % 2) = ((stick (u / 10) (u % 2 == 1) : Nat) : Int) := by
    have := or_stick (u / 10) (u % 2 == 1) (by omega)
    rw [← this]
    congr 1
    rcases Nat.mod_two_eq_zero_or_one u with h2 | h2
    · rw [h2]; simp; omega
    · rw [h2]; simp; omega
  have b4 := and_one (u : Int) (by omega) (by omega)
  have b2 := or_stick (stick (u / 10) (u % 2 == 1)) (u % 10 != 0) (stick_lt _ _ (by omega))
  have b3 : (((u : Int) % 10) != 0) = (u % 10 != 0) := by
    rw [Bool.eq_iff_iff, bne_iff_ne, bne_iff_ne]; omega
  unfold divU
  generalize stick (stick (u / 10) (u % 2 == 1)) (u % 10 != 0) = r at *
  generalize stick (u / 10) (u % 2 == 1) = q at *
  generalize (u % 10 != 0) = c at *
  go_enter Tryd.func75, Tryd.ntmps75
  have b5 : IntKind.u64.wrap ((u : Int) / 10) = (u : Int) / 10 := by rw [IntKind.wrap_u64]; omega
  go_wp2_with fail
  go_quiet (first | (go_at_call 99; exact Calls.quiet_of_same ((bool2r_any _ _).mono fun _ _ h => ⟨h.1, h.2.symm⟩)) | fail)
  go_wp2
  go_ret
  exact ⟨rfl, drewN_below _ _⟩
end Go.Proofs.YtodlhjdogcpffaaDoor
