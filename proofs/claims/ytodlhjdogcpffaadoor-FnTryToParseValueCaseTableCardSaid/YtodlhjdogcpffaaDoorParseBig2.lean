/- ParseFloat over the shortest plain decimal of M/100, M up to 2^53. -/
import Derived.Test.YtodlhjdogcpffaaDoorParseBig
import Derived.Test.YtodlhjdogcpffaaDoorShownDec
import Derived.Test.YtodlhjdogcpffaaDoorZzttv
namespace Go.Proofs.YtodlhjdogcpffaaDoor
open Go.RowKit

/-- The text of a decimal that atof64exact does not take: M/100, M of 53 bits or 2^53. -/
structure DecL (s : ByteArray) (neg : Bool) (m : Nat) : Prop where
  plain : Plain s neg.toNat
  minus : neg = true → ∀ h : 0 < s.size, s[0].toNat = 45
  mant : (rs s neg.toNat (s.size - neg.toNat)).mant = m
  exp : (rs s neg.toNat (s.size - neg.toNat)).exp = -2
  big : 4503599627370496 ≤ m
  few : m ≤ 9007199254740992

/-- The word of m/100 for these. -/
def lword (neg : Bool) (m : Nat) : Nat := if m < 9007199254740992 then Ieee.double.nearest neg (sig25 m) (-9) else Ieee.double.nearest neg (sig25 4503599627370496) (-8)

/-- The row of the powers of ten that it reads. -/
structure RowM2 (w : World) : Prop where
  hi : w.cell? ⟨6, 692, none⟩ = some (.int .u64 11805916207174113035)
  lo : w.cell? ⟨6, 693, none⟩ = some (.int .u64 14019525496019259228)
theorem RowM2.below {w w' : World} (h : RowM2 w) (hb : Below w.heap.size w w') : RowM2 w' := ⟨(hb.cell (block_lt_of_cell h.1)).trans h.1, (hb.cell (block_lt_of_cell h.2)).trans h.2⟩

theorem pf64_any (neg : Bool) (m : Nat) (w : World) (h1 : 4503599627370496 ≤ m) (h2 : m ≤ 9007199254740992) (hv : RowM2 w) :
    Calls Tryd.prog 94 #[.int .u64 m, .int .i64 (-2), .int .u64 (9223372036854775808 * neg.toNat : Nat)] w fun e w' => e = .returned (.tuple #[.float .f64 (lword neg m), .nilIface]) ∧ Below w.heap.size w w' := by
  have hA : neg.toNat < 2 := by have := Bool.toNat_le neg; omega
  unfold lword
  rcases Nat.lt_or_ge m 9007199254740992 with h | h
  · rw [if_pos h]
    have hb := sig25_bounds m h1 h
    have e := packed_near neg (sig25 m) 7 hb.1 (by omega) (by omega) (by omega)
    rw [word_add] at e
    have := pf64_53 m neg.toNat w hA h1 h hv.1 hv.2
    rw [e] at this
    exact this
  · obtain rfl : m = 9007199254740992 := by omega
    rw [if_neg (by omega)]
    have hb := sig25_bounds 4503599627370496 (by omega) (by omega)
    have e := packed_near neg (sig25 4503599627370496) 6 hb.1 (by omega) (by omega) (by omega)
    rw [word_add] at e
    have := pf64_54 neg.toNat w hA hv.1 hv.2
    rw [e] at this
    exact this

set_option maxRecDepth 100000 in
theorem exact_no (m : Nat) (neg : Bool) (w : World) (h1 : 4503599627370496 ≤ m) (h2 : m ≤ 9007199254740992) (hv : FltVars w) :
    Calls Tryd.prog 93 #[.int .u64 m, .int .i64 (-2), .bool neg] w fun e w' => e = .returned (.tuple #[.float .f64 0, .bool false]) ∧ w = w' := by
  have hv1 := hv.1
  have hz : (((m : Int) / 4503599627370496) != 0) = true := by rw [bne_iff_ne]; omega
  go_enter Tryd.func93, Tryd.ntmps93
  go_wp2
  go_ret2
  exact ⟨rfl, rfl⟩

set_option maxRecDepth 100000 in
set_option maxHeartbeats 2000000 in
theorem atof64_big (s : ByteArray) (neg : Bool) (m : Nat) (w : World) (h : DecL s neg m) (hv : FltVars w) (hr : RowM2 w) :
    Calls Tryd.prog 57 #[.string s] w fun e w' => e = .returned (.tuple #[.float .f64 (lword neg m), .int .i64 s.size, .nilIface]) ∧ Below w.heap.size w w' := by
  have hv2 := hv.2
  have hbig := h.big
  have hfew := h.few
  have HS : Calls Tryd.prog 82 #[.string s] w fun e w' => e = .returned (.tuple #[.float .f64 0, .int .i64 0, .bool false]) ∧ w = w' := by
    cases neg
    · exact special_pos s w h.plain
    · exact special_neg s w h.plain (h.minus rfl)
  have HR : Calls Tryd.prog 83 #[.string s] w fun e w' => e = .returned (.tuple #[.int .u64 m, .int .i64 (-2), .bool neg, .bool false, .bool false, .int .i64 s.size, .bool true]) ∧ w = w' := by
    obtain ⟨p, mi, hm, he, _, _⟩ := h
    cases neg
    · have := readFloat_pos s w p
      rw [show (rs s 0 (s.size - 0)).mant = m from hm, show (rs s 0 (s.size - 0)).exp = _ from he] at this
      exact this
    · have := readFloat_neg s w p (mi rfl)
      rw [show (rs s 1 (s.size - 1)).mant = m from hm, show (rs s 1 (s.size - 1)).exp = _ from he] at this
      exact this
  have HS := Lib.hid HS
  have HR := Lib.hid HR
  have HX := Lib.hid (exact_no m neg w hbig hfew hv)
  have HP := Lib.hid (pf64_any neg m w hbig hfew hr)
  clear h hv hr
  have hm0 : ((m : Int) == 0) = false := by rw [beq_eq_false_iff_ne]; omega
  generalize lword neg m = V at *
  cases neg
  all_goals
    go_enter Tryd.func57, Tryd.ntmps57
    go_wp2_with fail
    refine HS.out.mono ?_
    rintro e w' ⟨rfl, rfl⟩
    go_wp2_with fail
    refine HR.out.mono ?_
    rintro e w' ⟨rfl, rfl⟩
    go_wp2_with (first | (go_at_call 91; refine (bool2_any _ _).mono ?_; rintro e w' ⟨rfl, rfl⟩) | (go_at_call 93; refine HX.out.mono ?_; rintro e w' ⟨rfl, rfl⟩) | fail)
    refine HP.out.mono ?_
    rintro e w2 ⟨rfl, hb⟩
    have HB := Lib.hid hb
    clear hb
    go_wp2
    go_ret3
    exact ⟨rfl, HB.out⟩
end Go.Proofs.YtodlhjdogcpffaaDoor
