/- strconv.ParseFloat over a plain decimal that is a whole number below 2^52. -/
import Derived.Test.YtnmjfjfpedbalaaGreatDoorReadNum
import Derived.Test.YtnmjfjfpedbalaaGreatDoorFl
namespace Go.Proofs.YtnmjfjfpedbalaaGreatDoor
open Go.RowKit

theorem Plain.facts2 {s : ByteArray} {k0 : Nat} (h : Plain s k0) (i : Nat) (hi : i < s.size) (hk : k0 ≤ i) : ((s[i].toNat : Int) == 105) = false ∧ ((s[i].toNat : Int) == 73) = false ∧ ((s[i].toNat : Int) == 110) = false ∧ ((s[i].toNat : Int) == 78) = false ∧ (s[i].toNat : Int) < 65 := by
  obtain ⟨n, rfl⟩ := Nat.le.dest hk
  have := h.byte n hi
  simp only [beq_eq_false_iff_ne]
  omega

set_option maxRecDepth 100000 in
set_option maxHeartbeats 1000000 in
theorem special_pos (s : ByteArray) (w : World) (hp : Plain s 0) :
    Calls Tryz.prog 52 #[.string s] w fun e w' => e = .returned (.tuple #[.float .f64 0, .int .i64 0, .bool false]) ∧ w = w' := by
  have hs := hp.few
  have h0 := hp.some
  have hne : ¬ s = ByteArray.empty := by rintro rfl; simp at h0
  have hne2 : ((s.size : Int) == 0) = false := by rw [beq_eq_false_iff_ne]; omega
  obtain ⟨f1, f2, _, _⟩ := hp.facts 0 h0 (Nat.zero_le _)
  obtain ⟨f3, f4, f5, f6, _⟩ := hp.facts2 0 h0 (Nat.zero_le _)
  clear hp
  go_enter Tryz.func52, Tryz.ntmps52
  go_wp2
  go_ret3
  exact ⟨rfl, rfl⟩

set_option maxRecDepth 100000 in
set_option maxHeartbeats 1000000 in
theorem common_no (s : ByteArray) (w : World) (h0 : 0 < s.size) (hs : s.size ≤ 64) (h1 : ((s[0].toNat : Int) == 105) = false) (h2 : (s[0].toNat : Int) < 65) :
    Calls Tryz.prog 66 #[.string s, .string { data := #[105, 110, 102, 105, 110, 105, 116, 121] }] w fun e w' => e = .returned (.int .i64 0) ∧ w = w' := by
  go_enter Tryz.func66, Tryz.ntmps66
  have hmin : (0 : Int) < min 8 (s.size : Int) := by omega
  have h65 : ((65 : Int) ≤ (s[0].toNat : Int)) = False := by simp; omega
  have hne : ¬ s = ByteArray.empty := by rintro rfl; simp at h0
  have h105 : ((s[0].toNat : Int) != (({ data := #[105, 110, 102, 105, 110, 105, 116, 121] } : ByteArray)[0].toNat : Int)) = true := by
    have e : (({ data := #[105, 110, 102, 105, 110, 105, 116, 121] } : ByteArray)[0].toNat : Int) = 105 := rfl
    rw [e, bne, h1]; rfl
  go_wp2
  refine wp_loop_rounds 1 ?_
  rw [rounds_succ]
  go_wp2
  go_ret
  exact ⟨rfl, rfl⟩

theorem xor_top (r : Nat) (h : r < 2 ^ 63) : r ^^^ 2 ^ 63 = 2 ^ 63 + r := by
  have e := Nat.two_pow_add_eq_or_of_lt h 1
  rw [Nat.mul_one] at e
  rw [e]
  apply Nat.eq_of_testBit_eq
  intro i
  rw [Nat.testBit_xor, Nat.testBit_or, Nat.testBit_two_pow]
  by_cases hi : 63 = i
  · subst hi; rw [Nat.testBit_lt_two_pow h]; simp
  · simp [hi]

theorem neg_word (m : Nat) (h0 : 0 < m) (h : m < 2 ^ 53) : Op.negFloat FloatKind.f64 (Ieee.double.nearest false m 0) = Ieee.double.nearest true m 0 := by
  rw [Fl.nearest_int _ m h0 h, Fl.nearest_int _ m h0 h]
  have hr := (Fl.rung_bounds m h0 h).2.2
  exact xor_top _ hr

theorem extract_get (s : ByteArray) (h : 1 < s.size) (h2 : 0 < (s.extract 1 s.size).size) : (s.extract 1 s.size)[0] = s[1] := by
  rw [ByteArray.getElem_extract]

set_option maxRecDepth 100000 in
set_option maxHeartbeats 1000000 in
theorem special_neg (s : ByteArray) (w : World) (hp : Plain s 1) (hm : ∀ h : 0 < s.size, s[0].toNat = 45) :
    Calls Tryz.prog 52 #[.string s] w fun e w' => e = .returned (.tuple #[.float .f64 0, .int .i64 0, .bool false]) ∧ w = w' := by
  have hs := hp.few
  have h0 : 0 < s.size := by have := hp.some; omega
  have hne : ¬ s = ByteArray.empty := by rintro rfl; simp at h0
  have f43 : s[0].toNat = 45 := hm (by omega)
  have h1 := hp.some
  have h2 : 0 < (s.extract 1 s.size).size := by rw [ByteArray.size_extract]; omega
  have h3 : (s.extract 1 s.size).size ≤ 64 := by rw [ByteArray.size_extract]; omega
  have h4 : (((s.extract 1 s.size)[0].toNat : Int) == 105) = false := by rw [extract_get s h1 h2]; exact (hp.facts2 1 h1 (Nat.le_refl _)).1
  have h5 : ((s.extract 1 s.size)[0].toNat : Int) < 65 := by rw [extract_get s h1 h2]; exact (hp.facts2 1 h1 (Nat.le_refl _)).2.2.2.2
  have HC := Lib.hid (common_no (s.extract 1 s.size) w h2 h3 h4 h5)
  clear h2 h3 h4 h5 hp hm
  go_enter Tryz.func52, Tryz.ntmps52
  go_wp2_with fail
  refine HC.out.mono ?_
  rintro e w' ⟨rfl, rfl⟩
  go_wp2
  go_ret3
  exact ⟨rfl, rfl⟩

/-- The variables that atof64 reads. -/
def FltVars (w : World) : Prop := w.cell? ⟨5, 0, none⟩ = some (.int .u64 52) ∧ w.cell? ⟨4, 0, none⟩ = some (.bool true)
theorem FltVars.below {w w' : World} (h : FltVars w) (hb : Below w.heap.size w w') : FltVars w' := ⟨(hb.cell (block_lt_of_cell h.1)).trans h.1, (hb.cell (block_lt_of_cell h.2)).trans h.2⟩

/-- The word of a whole number with its sign. -/
abbrev fint (neg : Bool) (m : Nat) : Nat := Ieee.double.nearest neg m 0

set_option maxRecDepth 100000 in
set_option maxHeartbeats 1000000 in
theorem exact_int (m : Nat) (neg : Bool) (w : World) (hm : m < 4503599627370496) (h0 : 0 < m) (hv : FltVars w) :
    Calls Tryz.prog 63 #[.int .u64 m, .int .i64 0, .bool neg] w fun e w' => e = .returned (.tuple #[.float .f64 (fint neg m), .bool true]) ∧ w = w' := by
  have hv1 := hv.1
  have hf : floatOfInt FloatKind.f64 (m : Int) = fint false m := by
    unfold floatOfInt FloatKind.nearest FloatKind.encode
    have : decide ((m : Int) < 0) = false := by simp
    rw [this]; rfl
  have hz : (((m : Int) / 4503599627370496) != 0) = false := by rw [bne_eq_false_iff_eq]; omega
  have hng : Op.unary UnOp.neg (.float .f64 (fint false m)) = (pure (.float .f64 (fint true m)) : Sem Value) := by
    have e : Op.unary UnOp.neg (.float .f64 (fint false m)) = (pure (.float .f64 (Op.negFloat .f64 (fint false m))) : Sem Value) := rfl
    rw [e, neg_word m h0 (by omega)]
  go_enter Tryz.func63, Tryz.ntmps63
  cases neg
  all_goals
    go_wp2
    go_ret2
    exact ⟨rfl, rfl⟩

/-- The text is a whole number's: digits, a minus at the front at most; its digits spell m. -/
structure Whole (s : ByteArray) (neg : Bool) (m : Nat) : Prop where
  plain : Plain s neg.toNat
  minus : neg = true → ∀ h : 0 < s.size, s[0].toNat = 45
  mant : (rs s neg.toNat (s.size - neg.toNat)).mant = m
  exp : (rs s neg.toNat (s.size - neg.toNat)).exp = 0
  small : m < 4503599627370496

theorem readFloat_whole (s : ByteArray) (neg : Bool) (m : Nat) (w : World) (h : Whole s neg m) :
    Calls Tryz.prog 53 #[.string s] w fun e w' => e = .returned (.tuple #[.int .u64 m, .int .i64 0, .bool neg, .bool false, .bool false, .int .i64 s.size, .bool true]) ∧ w = w' := by
  obtain ⟨h1, h2, h3, h4, _⟩ := h
  cases neg
  · have := readFloat_pos s w h1
    rw [show (rs s 0 (s.size - 0)).mant = m from h3, show (rs s 0 (s.size - 0)).exp = 0 from h4] at this
    exact this
  · have := readFloat_neg s w h1 (h2 rfl)
    rw [show (rs s 1 (s.size - 1)).mant = m from h3, show (rs s 1 (s.size - 1)).exp = 0 from h4] at this
    exact this

theorem special_whole (s : ByteArray) (neg : Bool) (m : Nat) (w : World) (h : Whole s neg m) :
    Calls Tryz.prog 52 #[.string s] w fun e w' => e = .returned (.tuple #[.float .f64 0, .int .i64 0, .bool false]) ∧ w = w' := by
  obtain ⟨h1, h2, _, _, _⟩ := h
  cases neg
  · exact special_pos s w h1
  · exact special_neg s w h1 (h2 rfl)

theorem run_frombits (n : Int) (w : World) : (callFunc 62 #[.int .u64 n]).run Tryz.prog w = .ok (.value (.float .f64 n.toNat)) w :=
  (run_callFunc_extern (e := Extern.MathFloatBits.float64frombits) Tryz.func62 (by kernel_rfl) (by kernel_rfl) (by kernel_rfl) (by kernel_rfl) _ w).trans rfl

theorem bool2_any (b : Bool) (w : World) : Calls Tryz.prog 61 #[.bool b] w fun e w' => e = .returned (.int .u64 b.toNat) ∧ w = w' := by
  cases b
  all_goals
    go_enter Tryz.func61, Tryz.ntmps61
    go_wp2
    go_ret
    exact ⟨rfl, rfl⟩

set_option maxRecDepth 100000 in
set_option maxHeartbeats 2000000 in
theorem atof64_whole (s : ByteArray) (neg : Bool) (m : Nat) (w : World) (h : Whole s neg m) (hv : FltVars w) :
    Calls Tryz.prog 48 #[.string s] w fun e w' => e = .returned (.tuple #[.float .f64 (fint neg m), .int .i64 s.size, .nilIface]) ∧ w = w' := by
  have hv2 := hv.2
  have hsm := h.small
  have HV := Lib.hid hv
  have HS := Lib.hid (special_whole s neg m w h)
  have HR := Lib.hid (readFloat_whole s neg m w h)
  clear h hv
  have HZ := Lib.hid (show m = 0 ∨ ((m : Int) == 0) = false ∧ 0 < m from by rw [beq_eq_false_iff_ne]; omega)
  have hfb := run_frombits
  have hb0 : bits BinOp.or IntKind.u64 0 0 = 0 := by decide +kernel
  have hb1 : bits BinOp.or IntKind.u64 9223372036854775808 0 = 9223372036854775808 := by decide +kernel
  have z0 : fint false 0 = 0 := rfl
  have z1 : fint true 0 = 9223372036854775808 := rfl
  go_enter Tryz.func48, Tryz.ntmps48
  go_wp2_with fail
  refine HS.out.mono ?_
  rintro e w' ⟨rfl, rfl⟩
  go_wp2_with fail
  refine HR.out.mono ?_
  rintro e w' ⟨rfl, rfl⟩
  rcases HZ.out with rfl | ⟨hm0, hm1⟩
  · cases neg
    · go_wp2
      go_ret3
      exact ⟨by rw [z0]; rfl, rfl⟩
    · go_wp2
      go_ret3
      exact ⟨by rw [z1]; rfl, rfl⟩
  · have HE := Lib.hid (exact_int m neg w (by omega) hm1 HV.out)
    cases neg
    all_goals
      go_wp2_with (first | (go_at_call 61; refine (bool2_any _ _).mono ?_; rintro e w' ⟨rfl, rfl⟩) | (go_at_call 63; refine HE.out.mono ?_; rintro e w' ⟨rfl, rfl⟩))
      go_ret3
      exact ⟨rfl, rfl⟩

set_option maxRecDepth 100000 in
set_option maxHeartbeats 2000000 in
theorem ParseFloat_whole (s : ByteArray) (neg : Bool) (m : Nat) (w : World) (h : Whole s neg m) (hv : FltVars w) :
    Calls Tryz.prog 32 #[.string s, .int .i64 64] w fun e w' => e = .returned (.tuple #[.float .f64 (fint neg m), .nilIface]) ∧ w = w' := by
  have HA := Lib.hid (atof64_whole s neg m w h hv)
  clear h hv
  go_enter Tryz.func32, Tryz.ntmps32
  go_wp2_with (first | (go_at_call 48; refine HA.out.mono ?_; rintro e w' ⟨rfl, rfl⟩) | (go_at_call 39; go_in) | (go_at_call 42; go_in))
  go_ret2
  exact ⟨rfl, rfl⟩
end Go.Proofs.YtnmjfjfpedbalaaGreatDoor
