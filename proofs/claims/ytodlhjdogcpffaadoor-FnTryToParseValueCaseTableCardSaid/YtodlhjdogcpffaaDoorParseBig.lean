/- parseFloat64 at M/100, M of 53 bits. -/
import Derived.Test.YtodlhjdogcpffaaDoorPack
import Derived.Test.YtodlhjdogcpffaaDoorFmtFixed
import Derived.Test.YtodlhjdogcpffaaDoorParseNum
namespace Go.Proofs.YtodlhjdogcpffaaDoor
open Go.RowKit

set_option maxRecDepth 100000 in
set_option maxHeartbeats 1000000 in
theorem pack_any (A v E : Nat) (w : World) (hA : A < 2) (hv1 : 4503599627370496 ≤ v) (hv2 : v < 9007199254740992) (hE1 : 900 ≤ E) (hE2 : E < 1200) :
    Calls Tryd.prog 107 #[.int .u64 (9223372036854775808 * A + v : Nat), .int .i64 ((E : Int) - 1075)] w fun e w' => e = .returned (.tuple #[.float .f64 (9223372036854775808 * A + 4503599627370496 * E + (v - 4503599627370496)), .nilIface]) ∧ w = w' := by
  obtain ⟨f, rfl⟩ : ∃ f, v = 4503599627370496 + f := ⟨v - 4503599627370496, by omega⟩
  have hf : f < 4503599627370496 := by omega
  have em : 9223372036854775808 * A + (4503599627370496 + f) = 1024 * A * 9007199254740992 + 4503599627370496 + f := by omega
  have h1 := u64_and_nat (9223372036854775808 * A + (4503599627370496 + f)) 4503599627370496 (by omega) (by omega)
  have h2 := u64_andNot_nat (9223372036854775808 * A + (4503599627370496 + f)) 4503599627370496 (by omega) (by omega)
  rw [em, and52 _ f hf] at h1
  rw [em, not52 _ f (by omega) hf] at h2
  have h3 := u64_or_nat (9223372036854775808 * A + f) (4503599627370496 * E) (by omega) (by omega)
  rw [or_high A f E hf (by omega)] at h3
  have e1 : 4503599627370496 + f - 4503599627370496 = f := by omega
  rw [e1]
  have e2 : 1024 * A * 9007199254740992 + f = 9223372036854775808 * A + f := by omega
  rw [e2] at h2
  rw [em]
  have hw1 : IntKind.i64.wrap (1075 + ((E : Int) - 1075)) = E := by rw [IntKind.wrap_i64]; omega
  have hw2 : IntKind.u64.wrap (E : Int) = E := by rw [IntKind.wrap_u64]; omega
  have hw3 : IntKind.u64.wrap ((E : Int) * 4503599627370496) = ((4503599627370496 * E : Nat) : Int) := by rw [IntKind.wrap_u64]; omega
  have hfb := run_frombits
  have q1 : ¬ (972 : Int) ≤ (E : Int) - 1075 := by omega
  obtain ⟨m, hm⟩ : ∃ m, 1024 * A * 9007199254740992 + 4503599627370496 + f = m := ⟨_, rfl⟩
  obtain ⟨r, hr⟩ : ∃ r, 9223372036854775808 * A + f = r := ⟨_, rfl⟩
  obtain ⟨x, hx⟩ : ∃ x, 9223372036854775808 * A + 4503599627370496 * E + f = x := ⟨_, rfl⟩
  obtain ⟨y, hy⟩ : ∃ y, 4503599627370496 * E = y := ⟨_, rfl⟩
  rw [hm] at h1 h2 ⊢
  rw [hr] at h2 h3
  rw [hx] at h3 ⊢
  rw [hy] at h3 hw3
  have c52 : ((4503599627370496 : Nat) : Int) = 4503599627370496 := rfl
  rw [c52] at h1 h2
  clear hm hr hx hy em e2 e1 c52
  go_enter Tryd.func107, Tryd.ntmps107
  go_wp2
  go_ret2
  exact ⟨rfl, rfl⟩

set_option maxRecDepth 100000 in
theorem bool2i_any (b : Bool) (w : World) : Calls Tryd.prog 73 #[.bool b] w fun e w' => e = .returned (.int .i64 b.toNat) ∧ w = w' := by
  cases b
  all_goals
    go_enter Tryd.func73, Tryd.ntmps73
    go_wp2
    go_ret
    exact ⟨rfl, rfl⟩
theorem len64_53 (m : Nat) (h1 : 4503599627370496 ≤ m) (h2 : m < 9007199254740992) : Lib.bitLen m = 53 := by
  have h := Lib.bitLen_shift 52 m (by have := p52; generalize (2 : Nat) ^ 52 = Z at *; omega) (Nat.lt_of_lt_of_le h2 (by decide))
  have e : m / 2 ^ 52 = 1 := by have := p52; generalize (2 : Nat) ^ 52 = Z at *; subst this; omega
  rw [h, e]
  decide +kernel
theorem sig25_bounds (m : Nat) (h1 : 4503599627370496 ≤ m) (h2 : m < 9007199254740992) : 18014398509481984 ≤ sig25 m ∧ sig25 m < 46116860184273920 := by
  unfold sig25
  have := Bool.toNat_le (m % 25 != 0)
  omega

set_option maxRecDepth 100000 in
set_option maxHeartbeats 2000000 in
/-- parseFloat64 at the place -2. -/
theorem pf64_53 (m A : Nat) (w : World) (hA : A < 2) (h1 : 4503599627370496 ≤ m) (h2 : m < 9007199254740992) (ho : w.cell? ⟨6, 692, none⟩ = some (.int .u64 11805916207174113035)) (ho1 : w.cell? ⟨6, 693, none⟩ = some (.int .u64 14019525496019259228)) :
    Calls Tryd.prog 94 #[.int .u64 m, .int .i64 (-2), .int .u64 (9223372036854775808 * A : Nat)] w fun e w' => e = .returned (.tuple #[.float .f64 (9223372036854775808 * A + packed (sig25 m) 7), .nilIface]) ∧ Below w.heap.size w w' := by
  have HLen := Lib.hid (fun (wx : World) => (show Calls Tryd.prog 46 #[.int .u64 m] wx fun e w' => e = .returned (.int .i64 53) ∧ w' = wx by
    have h := Tryd.bits_Len64 m wx (by omega) (by omega)
    have e : Lib.bitLen ((m : Int)).toNat = 53 := by rw [Int.toNat_natCast]; exact len64_53 m h1 h2
    rw [e] at h
    exact h))
  have hsig : 18014398509481984 ≤ sig25 m ∧ sig25 m < 46116860184273920 := sig25_bounds m h1 h2
  have HU := Lib.hid (fun (B : Nat) (wx : World) c0 c1 c2 => (show Calls Tryd.prog 67 #[.int .u64 ((m : Int) * 2048), .pointer (some ⟨B, 0, none⟩)] wx fun e w' => e = .returned (.int .u64 (sig25 m : Nat)) ∧ Below wx.heap.size wx w' by
    have h := uscale_low (m * 2048) 11805916207174113035 14019525496019259228 8 B wx (by omega) (by omega) (by omega) (by omega) (by omega) c0 c1 c2
    have e8 : (2 : Nat) ^ 8 = 256 := by decide
    rw [e8, sig25_eq m (m * 2048) (by omega) (by omega) (by omega)] at h
    have ex : ((m * 2048 : Nat) : Int) = (m : Int) * 2048 := by omega
    rw [ex] at h
    exact h))
  obtain ⟨u, hu⟩ : ∃ u, sig25 m = u := ⟨_, rfl⟩
  rw [hu] at hsig HU ⊢
  clear hu
  have hb6 := block_lt_of_cell ho
  dsimp only at hb6
  have hwx : IntKind.u64.wrap ((m : Int) * 2048) = (m : Int) * 2048 := by rw [IntKind.wrap_u64]; omega
  have hmin : min (1074 : Int) 7 = 7 := by decide
  go_enter Tryd.func94, Tryd.ntmps94
  go_wp2_with (first | (go_at_call 46; refine (HLen.out _).mono ?_; rintro e w' ⟨rfl, rfl⟩) | (go_at_call 65; go_in) | (go_at_call 66; go_in))
  refine (HU.out _ _ (by simp) (by simp) (by simp)).mono ?_
  rintro e w2 ⟨rfl, hb2⟩
  have HB := Lib.hid (((Below.refl _ _).alloc (Nat.le_refl _) _).trans (hb2.mono (by simp)))
  clear hb2
  have c0 : decide ((36028797018963966 : Int) ≤ (u : Int)) = decide (36028797018963966 ≤ u) := by rw [decide_eq_decide]; omega
  have d1 := and_one (u : Int) (by omega) (by omega)
  have HR := Lib.hid (fun v wx (hv : v < 9223372036854775808) => roundU_any v wx hv)
  have hmod : (u : Int) % 2 = ((u % 2 == 1).toNat : Nat) := by
    rcases Nat.mod_two_eq_zero_or_one u with h | h
    · rw [h]; simp; omega
    · rw [h]; simp; omega
  by_cases hs : 36028797018963966 ≤ u
  · have hI : (36028797018963966 : Int) ≤ (u : Int) := by omega
    have d2 := or_stick (u / 2) (u % 2 == 1) (by omega)
    have hdv : ((u / 2 : Nat) : Int) = (u : Int) / 2 := by omega
    rw [hdv] at d2
    obtain ⟨v, hv⟩ : ∃ v, stick (u / 2) (u % 2 == 1) = v := ⟨_, rfl⟩
    have hvb : 18014398509481983 ≤ v ∧ v < 23058430092136961 := by rw [← hv]; unfold stick; split <;> omega
    rw [hv] at d2
    have hrv : 4503599627370496 ≤ roundU v ∧ roundU v < 9007199254740992 := by unfold roundU; omega
    have dor := u64_or_nat (9223372036854775808 * A) (roundU v) (by omega) (by omega)
    rw [or_sign A _ (by omega), Int.natCast_mul] at dor
    have c63 : ((9223372036854775808 : Nat) : Int) = 9223372036854775808 := rfl
    rw [c63] at dor
    have hpk : packed u 7 = 4503599627370496 * 1069 + (roundU v - 4503599627370496) := by
      unfold packed
      rw [if_pos hs]; dsimp only; rw [if_pos rfl, hv]
      omega
    have HP := Lib.hid (fun wx => pack_any A (roundU v) 1069 wx hA hrv.1 hrv.2 (by omega) (by omega))
    have eE : (((1069 : Nat) : Int) - 1075) = (-6) := rfl
    rw [eE] at HP
    obtain ⟨X, hX⟩ : ∃ X, 9223372036854775808 * A + roundU v = X := ⟨_, rfl⟩
    rw [hX] at dor HP
    clear hX
    go_wp2_with (first | (go_at_call 74; refine (unmin_any 9007199254740992 _ (by omega) (by omega)).mono ?_; rintro e w3 ⟨rfl, rfl⟩) | (go_at_call 73; refine (bool2i_any _ _).mono ?_; rintro e w3 ⟨rfl, rfl⟩) | (go_at_call 71; refine (HR.out v _ (by omega)).mono ?_; rintro e w4 ⟨rfl, rfl⟩) | fail)
    refine (HP.out _).mono ?_
    rintro e w5 ⟨rfl, rfl⟩
    go_wp2
    go_ret2
    exact ⟨by rw [hpk, ← Nat.add_assoc]; rfl, HB.out⟩
  · have hI : ¬ (36028797018963966 : Int) ≤ (u : Int) := by omega
    have d2 := or_stick u (u % 2 == 1) (by omega)
    have hst : stick u (u % 2 == 1) = u := by unfold stick; rw [if_neg (by simp)]
    rw [hst] at d2
    have hrv : 4503599627370496 ≤ roundU u ∧ roundU u < 9007199254740992 := by unfold roundU; omega
    have dor := u64_or_nat (9223372036854775808 * A) (roundU u) (by omega) (by omega)
    rw [or_sign A _ (by omega), Int.natCast_mul] at dor
    have c63 : ((9223372036854775808 : Nat) : Int) = 9223372036854775808 := rfl
    rw [c63] at dor
    have hpk : packed u 7 = 4503599627370496 * 1068 + (roundU u - 4503599627370496) := by
      unfold packed
      rw [if_neg hs]; dsimp only; rw [if_neg (by omega)]
      omega
    have HP := Lib.hid (fun wx => pack_any A (roundU u) 1068 wx hA hrv.1 hrv.2 (by omega) (by omega))
    have eE : (((1068 : Nat) : Int) - 1075) = (-7) := rfl
    rw [eE] at HP
    obtain ⟨X, hX⟩ : ∃ X, 9223372036854775808 * A + roundU u = X := ⟨_, rfl⟩
    rw [hX] at dor HP
    clear hX
    go_wp2_with (first | (go_at_call 74; refine (unmin_any 9007199254740992 _ (by omega) (by omega)).mono ?_; rintro e w3 ⟨rfl, rfl⟩) | (go_at_call 73; refine (bool2i_any _ _).mono ?_; rintro e w3 ⟨rfl, rfl⟩) | (go_at_call 71; refine (HR.out u _ (by omega)).mono ?_; rintro e w4 ⟨rfl, rfl⟩) | fail)
    refine (HP.out _).mono ?_
    rintro e w5 ⟨rfl, rfl⟩
    go_wp2
    go_ret2
    exact ⟨by rw [hpk, ← Nat.add_assoc]; rfl, HB.out⟩

set_option maxRecDepth 100000 in
set_option maxHeartbeats 2000000 in
/-- parseFloat64 at the place -2. -/
theorem pf64_54 (A : Nat) (w : World) (hA : A < 2) (ho : w.cell? ⟨6, 692, none⟩ = some (.int .u64 11805916207174113035)) (ho1 : w.cell? ⟨6, 693, none⟩ = some (.int .u64 14019525496019259228)) :
    Calls Tryd.prog 94 #[.int .u64 9007199254740992, .int .i64 (-2), .int .u64 (9223372036854775808 * A : Nat)] w fun e w' => e = .returned (.tuple #[.float .f64 (9223372036854775808 * A + packed (sig25 4503599627370496) 6), .nilIface]) ∧ Below w.heap.size w w' := by
  have HLen := Lib.hid (fun (wx : World) => (show Calls Tryd.prog 46 #[.int .u64 9007199254740992] wx fun e w' => e = .returned (.int .i64 54) ∧ w' = wx by
    have h := Tryd.bits_Len64 9007199254740992 wx (by omega) (by omega)
    have e : Lib.bitLen ((9007199254740992 : Int)).toNat = 54 := by decide +kernel
    rw [e] at h
    exact h))
  have hsig : 18014398509481984 ≤ sig25 4503599627370496 ∧ sig25 4503599627370496 < 46116860184273920 := sig25_bounds 4503599627370496 (by omega) (by omega)
  have HU := Lib.hid (fun (B : Nat) (wx : World) c0 c1 c2 => (show Calls Tryd.prog 67 #[.int .u64 9223372036854775808, .pointer (some ⟨B, 0, none⟩)] wx fun e w' => e = .returned (.int .u64 (sig25 4503599627370496 : Nat)) ∧ Below wx.heap.size wx w' by
    have h := uscale_low 9223372036854775808 11805916207174113035 14019525496019259228 8 B wx (by omega) (by omega) (by omega) (by omega) (by omega) c0 c1 c2
    have e8 : (2 : Nat) ^ 8 = 256 := by decide
    rw [e8, sig25_eq 4503599627370496 9223372036854775808 (by omega) (by omega) (by omega)] at h
    exact h))
  obtain ⟨u, hu⟩ : ∃ u, sig25 4503599627370496 = u := ⟨_, rfl⟩
  rw [hu] at hsig HU ⊢
  clear hu
  have hb6 := block_lt_of_cell ho
  dsimp only at hb6
  have hmin : min (1074 : Int) 6 = 6 := by decide
  go_enter Tryd.func94, Tryd.ntmps94
  go_wp2_with (first | (go_at_call 46; refine (HLen.out _).mono ?_; rintro e w' ⟨rfl, rfl⟩) | (go_at_call 65; go_in) | (go_at_call 66; go_in))
  refine (HU.out _ _ (by simp) (by simp) (by simp)).mono ?_
  rintro e w2 ⟨rfl, hb2⟩
  have HB := Lib.hid (((Below.refl _ _).alloc (Nat.le_refl _) _).trans (hb2.mono (by simp)))
  clear hb2
  have c0 : decide ((36028797018963966 : Int) ≤ (u : Int)) = decide (36028797018963966 ≤ u) := by rw [decide_eq_decide]; omega
  have d1 := and_one (u : Int) (by omega) (by omega)
  have HR := Lib.hid (fun v wx (hv : v < 9223372036854775808) => roundU_any v wx hv)
  have hmod : (u : Int) % 2 = ((u % 2 == 1).toNat : Nat) := by
    rcases Nat.mod_two_eq_zero_or_one u with h | h
    · rw [h]; simp; omega
    · rw [h]; simp; omega
  by_cases hs : 36028797018963966 ≤ u
  · have hI : (36028797018963966 : Int) ≤ (u : Int) := by omega
    have d2 := or_stick (u / 2) (u % 2 == 1) (by omega)
    have hdv : ((u / 2 : Nat) : Int) = (u : Int) / 2 := by omega
    rw [hdv] at d2
    obtain ⟨v, hv⟩ : ∃ v, stick (u / 2) (u % 2 == 1) = v := ⟨_, rfl⟩
    have hvb : 18014398509481983 ≤ v ∧ v < 23058430092136961 := by rw [← hv]; unfold stick; split <;> omega
    rw [hv] at d2
    have hrv : 4503599627370496 ≤ roundU v ∧ roundU v < 9007199254740992 := by unfold roundU; omega
    have dor := u64_or_nat (9223372036854775808 * A) (roundU v) (by omega) (by omega)
    rw [or_sign A _ (by omega), Int.natCast_mul] at dor
    have c63 : ((9223372036854775808 : Nat) : Int) = 9223372036854775808 := rfl
    rw [c63] at dor
    have hpk : packed u 6 = 4503599627370496 * 1070 + (roundU v - 4503599627370496) := by
      unfold packed
      rw [if_pos hs]; dsimp only; rw [if_pos rfl, hv]
      omega
    have HP := Lib.hid (fun wx => pack_any A (roundU v) 1070 wx hA hrv.1 hrv.2 (by omega) (by omega))
    have eE : (((1070 : Nat) : Int) - 1075) = (-5) := rfl
    rw [eE] at HP
    obtain ⟨X, hX⟩ : ∃ X, 9223372036854775808 * A + roundU v = X := ⟨_, rfl⟩
    rw [hX] at dor HP
    clear hX
    go_wp2_with (first | (go_at_call 74; refine (unmin_any 9007199254740992 _ (by omega) (by omega)).mono ?_; rintro e w3 ⟨rfl, rfl⟩) | (go_at_call 73; refine (bool2i_any _ _).mono ?_; rintro e w3 ⟨rfl, rfl⟩) | (go_at_call 71; refine (HR.out v _ (by omega)).mono ?_; rintro e w4 ⟨rfl, rfl⟩) | fail)
    refine (HP.out _).mono ?_
    rintro e w5 ⟨rfl, rfl⟩
    go_wp2
    go_ret2
    exact ⟨by rw [hpk, ← Nat.add_assoc]; rfl, HB.out⟩
  · have hI : ¬ (36028797018963966 : Int) ≤ (u : Int) := by omega
    have d2 := or_stick u (u % 2 == 1) (by omega)
    have hst : stick u (u % 2 == 1) = u := by unfold stick; rw [if_neg (by simp)]
    rw [hst] at d2
    have hrv : 4503599627370496 ≤ roundU u ∧ roundU u < 9007199254740992 := by unfold roundU; omega
    have dor := u64_or_nat (9223372036854775808 * A) (roundU u) (by omega) (by omega)
    rw [or_sign A _ (by omega), Int.natCast_mul] at dor
    have c63 : ((9223372036854775808 : Nat) : Int) = 9223372036854775808 := rfl
    rw [c63] at dor
    have hpk : packed u 6 = 4503599627370496 * 1069 + (roundU u - 4503599627370496) := by
      unfold packed
      rw [if_neg hs]; dsimp only; rw [if_neg (by omega)]
      omega
    have HP := Lib.hid (fun wx => pack_any A (roundU u) 1069 wx hA hrv.1 hrv.2 (by omega) (by omega))
    have eE : (((1069 : Nat) : Int) - 1075) = (-6) := rfl
    rw [eE] at HP
    obtain ⟨X, hX⟩ : ∃ X, 9223372036854775808 * A + roundU u = X := ⟨_, rfl⟩
    rw [hX] at dor HP
    clear hX
    go_wp2_with (first | (go_at_call 74; refine (unmin_any 9007199254740992 _ (by omega) (by omega)).mono ?_; rintro e w3 ⟨rfl, rfl⟩) | (go_at_call 73; refine (bool2i_any _ _).mono ?_; rintro e w3 ⟨rfl, rfl⟩) | (go_at_call 71; refine (HR.out u _ (by omega)).mono ?_; rintro e w4 ⟨rfl, rfl⟩) | fail)
    refine (HP.out _).mono ?_
    rintro e w5 ⟨rfl, rfl⟩
    go_wp2
    go_ret2
    exact ⟨by rw [hpk, ← Nat.add_assoc]; rfl, HB.out⟩
end Go.Proofs.YtodlhjdogcpffaaDoor
