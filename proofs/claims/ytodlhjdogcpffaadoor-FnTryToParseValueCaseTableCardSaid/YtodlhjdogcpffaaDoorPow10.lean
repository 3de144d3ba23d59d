/- zzPow10: the powers of ten as floats. -/
import Derived.Test.YtodlhjdogcpffaaDoorParseFrac
import Derived.Laws.FloatArith
namespace Go.Proofs.YtodlhjdogcpffaaDoor
open Go.RowKit

theorem mul_ten (i : Nat) (h : i ≤ 14) : floatBits .mul .f64 (fint false (10 ^ i)) 4621819117588971520 = some (fint false (10 ^ (i + 1))) := by
  have e : fint false 10 = 4621819117588971520 := by decide +kernel
  rw [← e]
  have e0 : floatBits .mul .f64 (fint false (10 ^ i)) (fint false 10) = Ieee.double.mul (Ieee.double.nearest false (10 ^ i) 0) (Ieee.double.nearest false 10 0) := rfl
  rw [e0, Fl.mul_int false false (10 ^ i) 10 (pow10_lt i (by omega)) (by omega), ← Nat.pow_succ]
  rfl

set_option maxRecDepth 100000 in
set_option maxHeartbeats 1000000 in
theorem pow10_any (d : Nat) (w : World) (hd : d ≤ 14) : Calls Tryd.prog 7 #[.int .i64 d] w fun e w' => e = .returned (.float .f64 (fint false (10 ^ d))) ∧ w = w' := by
  have e1 : (4607182418800017408 : Nat) = fint false (10 ^ 0) := by decide +kernel
  have HE := Lib.hid e1
  clear e1
  go_enter Tryd.func7, Tryd.ntmps7
  go_wp2_with fail
  go_loopw [3, 4] (fun p i wr => ∃ q : Nat, i = .int .i64 q ∧ q ≤ d ∧ p = .float .f64 (fint false (10 ^ q)) ∧ wr = w) (fun _ i _ => d - (intOf i).toNat)
  case atStart => exact ⟨0, rfl, Nat.zero_le _, by rw [← HE.out], rfl⟩
  case round =>
    obtain ⟨q, rfl, hq, rfl, rfl⟩ := hrel
    rcases Nat.lt_or_ge q d with hlt | hge
    · have hm := mul_ten q (by omega)
      have hmu := fun (ty : TypeId) (wx : World) => run_float_arith (P := Tryd.prog) wx .mul ty .f64 _ _ _ hm
      clear hm
      generalize hX : fint false (10 ^ q) = X at *
      generalize hY : fint false (10 ^ (q + 1)) = Y at *
      have HY := Lib.hid hY
      clear hX hY
      have hqI : (q : Int) < d := by omega
      go_wp2
      exact ⟨⟨q + 1, by simp, by omega, by rw [HY.out], by trivial⟩, by simp [intOf]; omega⟩
    · obtain rfl : q = d := by omega
      obtain ⟨X, hX⟩ : ∃ X, fint false (10 ^ q) = X := ⟨_, rfl⟩
      rw [hX]
      have HX := Lib.hid hX
      clear hX
      go_wp2
      go_ret
      exact ⟨by rw [HX.out]; rfl, rfl⟩
end Go.Proofs.YtodlhjdogcpffaaDoor
