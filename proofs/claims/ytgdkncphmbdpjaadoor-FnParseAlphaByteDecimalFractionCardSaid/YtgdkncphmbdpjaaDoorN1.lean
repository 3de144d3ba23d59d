/- parseColorByte on the text of a whole number. -/
import Derived.Test.YtgdkncphmbdpjaaDoorRound
import Derived.Test.YtgdkncphmbdpjaaDoorC1
import Derived.Laws.FloatArith
namespace Go.Proofs.YtgdkncphmbdpjaaDoor
open Go.RowKit

def clampI (n : Int) : Int := if n < 0 then 0 else if 255 < n then 255 else n
def Taken (w : World) (n : Int) (e : Ending) (w' : World) : Prop := e = .returned (.tuple #[.int .u32 (clampI n), .bool true]) ∧ Below w.heap.size w w'

set_option maxRecDepth 100000 in
set_option maxHeartbeats 2000000 in
theorem pcb_number (s : ByteArray) (neg : Bool) (m y r : Nat) (n : Int) (w : World) (h : Whole s neg m) (hv : FltVars w) (hr : r < 18446744073709551616)
    (hmul : floatBits .mul .f64 (fint neg m) y = some r) (hn : floatToIntVal .f64 (roundBits r) .i64 = some n) :
    Calls Tryd.prog 20 #[tokV s 30, .float .f64 y] w (Taken w n) := by
  have hmu := fun (t : TypeId) (wx : World) => run_float_arith (P := Tryd.prog) wx .mul t .f64 _ _ _ hmul
  have hcv := fun (wx : World) => run_convert_float_int (P := Tryd.prog) wx 26 3 .f64 .i64 _ _ (by kernel_rfl) Tryd.underlying3 hn
  have HP := Lib.hid (fun (wx : World) hv' => ParseFloat_whole s neg m wx h hv')
  have HR := Lib.hid (fun (wx : World) => Round_any r wx hr)
  clear h hmul hn
  have HC := Lib.hid (show (n < 0 ∧ clampI n = 0) ∨ (¬ n < 0 ∧ 255 < n ∧ clampI n = 255) ∨ (¬ n < 0 ∧ ¬ 255 < n ∧ clampI n = n ∧ IntKind.u32.wrap n = n) from by
    unfold clampI
    by_cases h1 : n < 0
    · exact Or.inl ⟨h1, if_pos h1⟩
    · rw [if_neg h1]
      by_cases h2 : 255 < n
      · exact Or.inr (Or.inl ⟨h1, h2, if_pos h2⟩)
      · exact Or.inr (Or.inr ⟨h1, h2, if_neg h2, by rw [IntKind.wrap_u32]; omega⟩))
  unfold Taken
  go_enter Tryd.func20, Tryd.ntmps20
  go_wp2_with fail
  refine (HP.out _ (hv.below ((Below.refl _ _).alloc (Nat.le_refl _) _))).mono ?_
  rintro e w1 ⟨rfl, rfl⟩
  go_wp2_with fail
  refine (HR.out _).mono ?_
  rintro e w1 ⟨rfl, rfl⟩
  rcases HC.out with ⟨h1, h2⟩ | ⟨h1, h2, h3⟩ | ⟨h1, h2, h3, h4⟩
  · go_wp2
    go_ret2
    exact ⟨by rw [h2]; rfl, (Below.refl _ _).alloc (Nat.le_refl _) _⟩
  · go_wp2
    go_ret2
    exact ⟨by rw [h3]; rfl, (Below.refl _ _).alloc (Nat.le_refl _) _⟩
  · go_wp2
    go_ret2
    exact ⟨by rw [h3]; rfl, (Below.refl _ _).alloc (Nat.le_refl _) _⟩
end Go.Proofs.YtgdkncphmbdpjaaDoor
