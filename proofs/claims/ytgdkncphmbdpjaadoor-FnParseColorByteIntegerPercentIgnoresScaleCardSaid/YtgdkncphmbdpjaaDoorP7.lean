/- FnParseColorByteIntegerPercentIgnoresScale: the walk. -/
import Derived.Test.YtgdkncphmbdpjaaDoorP6
import Derived.Test.YtgdkncphmbdpjaaDoorI4
namespace Go.Proofs.YtgdkncphmbdpjaaDoor
open Go.RowKit

theorem extract_app (t : ByteArray) : (t ++ { data := #[37] } : ByteArray).extract 0 ((t ++ { data := #[37] } : ByteArray).size - 1) = t := by
  have : (t ++ { data := #[37] } : ByteArray).size = t.size + 1 := by rw [ByteArray.size_append]; rfl
  rw [this, Nat.add_sub_cancel]
  exact ByteArray.extract_append_eq_left rfl

set_option maxRecDepth 100000 in
set_option maxHeartbeats 2000000 in
theorem pcb_percent (t : ByteArray) (neg : Bool) (m y r : Nat) (n : Int) (w : World) (h : Whole t neg m) (hv : FltVars w) (hr : r < 18446744073709551616)
    (hmul : floatBits .mul .f64 (fint neg m) 4612924508324914790 = some r) (hn : floatToIntVal .f64 (roundBits r) .i64 = some n) :
    Calls Tryd.prog 20 #[tokV (t ++ { data := #[37] }) 34, .float .f64 y] w (Taken w n) := by
  have hmu := fun (t : TypeId) (wx : World) => run_float_arith (P := Tryd.prog) wx .mul t .f64 _ _ _ hmul
  have hcv := fun (wx : World) => run_convert_float_int (P := Tryd.prog) wx 26 3 .f64 .i64 _ _ (by kernel_rfl) Tryd.underlying3 hn
  have HP := Lib.hid (fun (wx : World) hv' => ParseFloat_whole t neg m wx h hv')
  have HR := Lib.hid (fun (wx : World) => Round_any r wx hr)
  have hex := extract_app t
  have hsz : (t ++ { data := #[37] } : ByteArray).size = t.size + 1 := by rw [ByteArray.size_append]; rfl
  generalize (t ++ { data := #[37] } : ByteArray) = s at *
  have hs18 : s.size ≤ 64 := by have := h.plain.few; cases neg <;> simp at this <;> omega
  clear h hmul hn
  have HC := Lib.hid (show (n < 0 ∧ clampI n = 0) ∨ (¬ n < 0 ∧ 255 < n ∧ clampI n = 255) ∨ (¬ n < 0 ∧ ¬ 255 < n ∧ clampI n = n ∧ IntKind.u32.wrap n = n) from by
    unfold clampI
    by_cases h1 : n < 0
    · exact Or.inl ⟨h1, if_pos h1⟩
    · rw [if_neg h1]
      by_cases h2 : 255 < n
      · exact Or.inr (Or.inl ⟨h1, h2, if_pos h2⟩)
      · exact Or.inr (Or.inr ⟨h1, h2, if_neg h2, by rw [IntKind.wrap_u32]; omega⟩))
  have z1 : 1 ≤ s.size := by omega
  have z2 : 0 < s.size := by omega
  clear hsz
  unfold Taken
  rcases HC.out with ⟨h1, h2⟩ | ⟨h1, h3, h2⟩ | ⟨h1, h3, h2, h4⟩
  all_goals
    rw [h2]
    clear HC
    go_enter Tryd.func20, Tryd.ntmps20
    go_wp2_with (first | (go_at_call 24; go_in) | (go_at_call 22; refine (HP.out _ (hv.below (((Below.refl _ _).alloc (Nat.le_refl _) _).alloc (by simp) _))).mono ?_; rintro e w1 ⟨rfl, rfl⟩) | (go_at_call 23; refine (HR.out _).mono ?_; rintro e w1 ⟨rfl, rfl⟩))
    go_ret2
    exact ⟨rfl, ((Below.refl _ _).alloc (Nat.le_refl _) _).alloc (by simp) _⟩
end Go.Proofs.YtgdkncphmbdpjaaDoor
