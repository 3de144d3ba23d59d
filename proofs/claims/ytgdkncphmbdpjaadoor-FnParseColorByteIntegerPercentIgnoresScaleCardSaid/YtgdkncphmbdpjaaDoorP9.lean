/- FnParseColorByteIntegerPercentIgnoresScale: the law's walk. -/
import Derived.Test.YtgdkncphmbdpjaaDoorP8
namespace Go.Proofs.YtgdkncphmbdpjaaDoor
open Go.RowKit

theorem pcb_perc (t : ByteArray) (p n : Int) (y : Nat) (w : World) (ht : Spells p t) (hv : FltVars w) (hn : percInt (fint (decide (p < 0)) p.natAbs) = some n) :
    Calls Tryd.prog 20 #[tokV (t ++ { data := #[37] }) 34, .float .f64 y] w (Taken w n) := by
  obtain ⟨r, h1, h2⟩ := perc_split hn
  exact pcb_percent t _ _ y r n w ht hv (Ieee.Format.mul_lt Ieee.double h1) h1 h2

set_option maxRecDepth 100000 in
set_option maxHeartbeats 2000000 in
theorem zz11_perc (t : ByteArray) (p n : Int) (y : Nat) (w : World) (ht : Spells p t) (hv : FltVars w) (hn : percInt (fint (decide (p < 0)) p.natAbs) = some n) :
    Calls Tryd.prog 11 #[.string (t ++ { data := #[37] }), .float .f64 y] w (Taken w n) := by
  have HP := Lib.hid (pcb_perc t p n y w ht hv hn)
  clear ht hn
  unfold Taken at *
  go_enter Tryd.func11, Tryd.ntmps11
  go_wp2_with (go_at_call 20; refine HP.out.mono ?_; rintro e w1 ⟨rfl, hb1⟩)
  go_ret2
  exact ⟨rfl, hb1⟩

set_option maxRecDepth 100000 in
set_option maxHeartbeats 2000000 in
theorem percentByte_any (p : Int) (w : World) (h1 : -2147483648 ≤ p) (h2 : p ≤ 2147483647) : Calls Tryd.prog 12 #[.int .i64 p] w fun e w' => e = .returned (.tuple #[.int .u32 (percLo p), .int .u32 (percHi p)]) ∧ w = w' := by
  unfold percLo percHi
  by_cases a1 : p ≤ 0
  · rw [if_pos a1, if_pos a1]
    go_enter Tryd.func12, Tryd.ntmps12
    go_wp2
    go_ret2
    exact ⟨rfl, rfl⟩
  · rw [if_neg a1, if_neg a1]
    by_cases a2 : 100 ≤ p
    · rw [if_pos a2, if_pos a2]
      go_enter Tryd.func12, Tryd.ntmps12
      go_wp2
      go_ret2
      exact ⟨rfl, rfl⟩
    · rw [if_neg a2, if_neg a2]
      have b1 : ¬ 100 ≤ p := a2
      have b2 : wrap64 (255 * p) = 255 * p := by unfold wrap64; omega
      have b3 : (255 * p).tdiv 100 = 255 * p / 100 := Int.tdiv_eq_ediv_of_nonneg (by omega)
      have b4 : (255 * p).tmod 100 = 255 * p % 100 := Int.tmod_eq_emod_of_nonneg (by omega)
      have b5 : wrap64 (255 * p / 100) = 255 * p / 100 := by unfold wrap64; omega
      have b6 : wrap64 (255 * p % 100) = 255 * p % 100 := by unfold wrap64; omega
      have b7 : IntKind.u32.wrap (255 * p / 100) = 255 * p / 100 := by rw [IntKind.wrap_u32]; omega
      have b8 : wrap64 (255 * p / 100 + 1) = 255 * p / 100 + 1 := by unfold wrap64; omega
      have b9 : IntKind.u32.wrap (255 * p / 100 + 1) = 255 * p / 100 + 1 := by rw [IntKind.wrap_u32]; omega
      rcases Int.lt_trichotomy (255 * p % 100) 50 with c | c | c
      · rw [if_pos (by omega), if_pos c]
        go_enter Tryd.func12, Tryd.ntmps12
        go_wp2
        go_ret2
        exact ⟨rfl, rfl⟩
      · have c1 : ¬ 255 * p % 100 < 50 := by omega
        have c2 : ¬ 50 < 255 * p % 100 := by omega
        rw [if_pos (by omega), if_neg c1]
        go_enter Tryd.func12, Tryd.ntmps12
        go_wp2
        go_ret2
        exact ⟨rfl, rfl⟩
      · have c1 : ¬ 255 * p % 100 < 50 := by omega
        rw [if_neg (by omega), if_neg c1]
        go_enter Tryd.func12, Tryd.ntmps12
        go_wp2
        go_ret2
        exact ⟨rfl, rfl⟩
end Go.Proofs.YtgdkncphmbdpjaaDoor
