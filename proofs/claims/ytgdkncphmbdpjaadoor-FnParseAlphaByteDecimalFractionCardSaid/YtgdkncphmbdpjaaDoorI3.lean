/- FnParseColorByteIntegerNumberTimesScale: the law's walk. -/
import Derived.Test.YtgdkncphmbdpjaaDoorI2
namespace Go.Proofs.YtgdkncphmbdpjaaDoor
open Go.RowKit

set_option maxRecDepth 100000 in
theorem itoa_zero (w : World) : Calls Tryd.prog 9 #[.int .i64 0] w fun e w' => e = .returned (.string ⟨#[48]⟩) ∧ w = w' := by
  go_enter Tryd.func9, Tryd.ntmps9
  go_wp2
  go_ret
  exact ⟨rfl, rfl⟩

/-- The decimal text of n. -/
def Spells (n : Int) (t : ByteArray) : Prop := Whole t (decide (n < 0)) n.natAbs

theorem itoa_any (n : Int) (w : World) (h1 : -2147483648 ≤ n) (h2 : n ≤ 2147483647) :
    Calls Tryd.prog 9 #[.int .i64 n] w fun e w' => ∃ t, e = .returned (.string t) ∧ Spells n t ∧ Below w.heap.size w w' := by
  unfold Spells
  rcases Int.lt_trichotomy n 0 with h | h | h
  · obtain ⟨v, rfl⟩ : ∃ v : Nat, n = -(v : Int) := ⟨n.natAbs, by omega⟩
    refine (itoa_neg v w (by omega) (by omega)).mono ?_
    rintro e w' ⟨k, rfl, a1, a2, a3, a4⟩
    refine ⟨_, rfl, ?_, a4⟩
    have e1 : decide (-(v : Int) < 0) = true := by simp; omega
    have e2 : (-(v : Int)).natAbs = v := by omega
    rw [e1, e2]
    exact whole_neg v k a1 a2 a3 (by omega)
  · subst h
    refine (itoa_zero w).mono ?_
    rintro e w' ⟨rfl, rfl⟩
    exact ⟨_, rfl, whole_pos 0 1 (by omega) (by omega) (by omega) (by omega), Below.refl _ _⟩
  · obtain ⟨v, rfl⟩ : ∃ v : Nat, n = (v : Int) := ⟨n.natAbs, by omega⟩
    refine (itoa_pos v w (by omega) (by omega)).mono ?_
    rintro e w' ⟨k, rfl, a1, a2, a3, a4⟩
    refine ⟨_, rfl, ?_, a4⟩
    have e1 : decide ((v : Int) < 0) = false := by simp
    have e2 : ((v : Int)).natAbs = v := by omega
    rw [e1, e2]
    exact whole_pos v k a1 a2 a3 (by omega)

theorem floatOfInt_fint (n : Int) : floatOfInt .f64 n = fint (decide (n < 0)) n.natAbs := rfl

theorem toInt_fint (neg : Bool) (m : Nat) (h : m < 9007199254740992) : floatToIntVal .f64 (fint neg m) .i64 = some (if neg then -(m : Int) else m) := by
  have := Fl.toInt_int neg m h
  unfold floatToIntVal
  have e : FloatKind.f64.decode (fint neg m) = Ieee.double.read (Ieee.double.nearest neg m 0) := rfl
  rw [e, this]
  have e1 : IntKind.i64.min = -9223372036854775808 := by decide
  have e2 : IntKind.i64.max = 9223372036854775807 := by decide
  dsimp only
  rw [e1, e2, if_pos]
  cases neg
  · simp; omega
  · simp; omega

theorem signs (n s : Int) : (if (decide (n < 0) ^^ decide (s < 0)) then -((n.natAbs * s.natAbs : Nat) : Int) else (n.natAbs * s.natAbs : Nat)) = n * s := by
  rw [← Int.natAbs_mul]
  by_cases hn : n < 0 <;> by_cases hs : s < 0 <;> simp only [hn, hs, decide_true, decide_false, Bool.xor_self, Bool.xor_false, Bool.xor_true, Bool.not_false, if_true, Bool.false_eq_true, if_false]
  · have := Int.mul_nonneg_of_nonpos_of_nonpos (by omega : n ≤ 0) (by omega : s ≤ 0); omega
  · have := Int.mul_nonpos_of_nonpos_of_nonneg (by omega : n ≤ 0) (by omega : 0 ≤ s); omega
  · have := Int.mul_nonpos_of_nonneg_of_nonpos (by omega : 0 ≤ n) (by omega : s ≤ 0); omega
  · have := Int.mul_nonneg (by omega : 0 ≤ n) (by omega : 0 ≤ s); omega

theorem pcb_times (t : ByteArray) (n s : Int) (w : World) (ht : Spells n t) (hv : FltVars w) (h1 : -2147483648 ≤ n) (h2 : n ≤ 2147483647) (h3 : -65536 ≤ s) (h4 : s ≤ 65536) :
    Calls Tryd.prog 20 #[tokV t 30, .float .f64 (floatOfInt .f64 s)] w (Taken w (n * s)) := by
  rw [floatOfInt_fint]
  have hm : n.natAbs * s.natAbs ≤ 2147483648 * 65536 := Nat.mul_le_mul (by omega) (by omega)
  have hr := round_whole (decide (n < 0) ^^ decide (s < 0)) (n.natAbs * s.natAbs) (by omega)
  have hi := toInt_fint (decide (n < 0) ^^ decide (s < 0)) (n.natAbs * s.natAbs) (by omega)
  rw [signs] at hi
  refine pcb_number t _ _ _ (fint (decide (n < 0) ^^ decide (s < 0)) (n.natAbs * s.natAbs)) (n * s) w ht hv ?_ ?_ ?_
  · exact Ieee.Format.nearest_lt Ieee.double _ _ _
  · exact Fl.mul_int _ _ _ _ (by omega) (by omega)
  · rw [hr]; exact hi

set_option maxRecDepth 100000 in
set_option maxHeartbeats 2000000 in
theorem zz8_times (t : ByteArray) (n s : Int) (w : World) (ht : Spells n t) (hv : FltVars w) (h1 : -2147483648 ≤ n) (h2 : n ≤ 2147483647) (h3 : -65536 ≤ s) (h4 : s ≤ 65536) :
    Calls Tryd.prog 8 #[.string t, .float .f64 (floatOfInt .f64 s)] w (Taken w (n * s)) := by
  have HP := Lib.hid (fun wx (hb : Below w.heap.size w wx) => pcb_times t n s wx ht (hv.below hb) h1 h2 h3 h4)
  clear ht
  unfold Taken at *
  go_enter Tryd.func8, Tryd.ntmps8
  go_wp2_with (go_at_call 20; refine (HP.out _ (Below.refl _ _)).mono ?_; rintro e w1 ⟨rfl, hb1⟩)
  go_ret2
  exact ⟨rfl, hb1⟩

set_option maxRecDepth 100000 in
theorem clamp_any (n : Int) (w : World) : Calls Tryd.prog 10 #[.int .i64 n] w fun e w' => e = .returned (.int .u32 (clampI n)) ∧ w = w' := by
  have hw : 0 ≤ n → n ≤ 255 → IntKind.u32.wrap n = n := fun a b => by rw [IntKind.wrap_u32]; omega
  unfold clampI
  by_cases h1 : n < 0
  · rw [if_pos h1]
    go_enter Tryd.func10, Tryd.ntmps10
    go_wp2
    go_ret
    exact ⟨rfl, rfl⟩
  · rw [if_neg h1]
    by_cases h2 : 255 < n
    · rw [if_pos h2]
      go_enter Tryd.func10, Tryd.ntmps10
      go_wp2
      go_ret
      exact ⟨rfl, rfl⟩
    · rw [if_neg h2]
      have hw2 := hw (by omega) (by omega)
      clear hw
      go_enter Tryd.func10, Tryd.ntmps10
      go_wp2
      go_ret
      exact ⟨rfl, rfl⟩

set_option maxRecDepth 100000 in
set_option maxHeartbeats 2000000 in
theorem law1_any (n s : Int) (w : World) (h1 : -2147483648 ≤ n) (h2 : n ≤ 2147483647) (h3 : -2147483648 ≤ s) (h4 : s ≤ 2147483647) (hv : FltVars w) : Calls Tryd.prog 3 #[.int .i32 n, .int .i32 s] w (LawOk w) := by
  have hw1 : wrap64 n = n := by unfold wrap64; omega
  have hw2 : wrap64 s = s := by unfold wrap64; omega
  have hw3 : -65536 ≤ s → s ≤ 65536 → wrap64 (n * s) = n * s := fun a b => by
    have hm : n.natAbs * s.natAbs ≤ 2147483648 * 65536 := Nat.mul_le_mul (by omega) (by omega)
    rw [← Int.natAbs_mul] at hm
    unfold wrap64; omega
  have HI := Lib.hid (itoa_any n w h1 h2)
  have HV := Lib.hid hv
  have HB := Lib.hid (And.intro h1 h2)
  by_cases hr : -65536 ≤ s ∧ s ≤ 65536
  · obtain ⟨r1, r2⟩ := hr
    have hw4 := hw3 r1 r2
    have HZ := Lib.hid (fun t wx ht hv' => zz8_times t n s wx ht hv' h1 h2 r1 r2)
    have q1 : ¬ s < -65536 := by omega
    have q2 : ¬ 65536 < s := by omega
    clear hw3 hv
    go_enter Tryd.func3, Tryd.ntmps3
    go_wp2_with (first | (go_at_call 9; refine HI.out.mono ?_; rintro e w1 ⟨t, rfl, ht, hb1⟩; have HT := Lib.hid ht; clear ht) | (go_at_call 8; refine (HZ.out _ _ HT.out (HV.out.below hb1)).mono ?_; rintro e w2 ⟨rfl, hb2⟩) | (go_at_call 10; refine (clamp_any _ _).mono ?_; rintro e w3 ⟨rfl, rfl⟩))
    go_ret
    exact ⟨rfl, hb1.trans (hb2.mono hb1.size)⟩
  · have q : (decide (s < -65536) || decide (65536 < s)) = true := by simp; omega
    clear hw3 hv
    rcases Int.lt_or_le s (-65536) with q1 | q1
    · go_enter Tryd.func3, Tryd.ntmps3
      go_wp2
      go_ret
      exact ⟨rfl, Below.refl _ _⟩
    · have q2 : ¬ s < -65536 := by omega
      have q3 : 65536 < s := by omega
      go_enter Tryd.func3, Tryd.ntmps3
      go_wp2
      go_ret
      exact ⟨rfl, Below.refl _ _⟩
end Go.Proofs.YtgdkncphmbdpjaaDoor
