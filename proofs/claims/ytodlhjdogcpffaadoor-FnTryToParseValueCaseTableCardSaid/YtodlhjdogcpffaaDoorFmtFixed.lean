/- fixedWidthFloat at the fields of m/10^k. -/
import Derived.Test.YtodlhjdogcpffaaDoorFmtScale
namespace Go.Proofs.YtodlhjdogcpffaaDoor
open Go.RowKit

theorem scaled_mul (U G c : Nat) (hc : 0 < c) : scaled (U * c) (G * c) = scaled U G := by
  unfold scaled
  rw [Nat.mul_div_mul_right _ _ hc, Nat.mul_mod_mul_right]
  congr 1
  rw [Bool.eq_iff_iff, bne_iff_ne, bne_iff_ne]
  constructor
  · intro h h2; rw [h2] at h; simp at h
  · intro h h2
    rcases Nat.mul_eq_zero.1 h2 with h3 | h3
    · exact h h3
    · omega

/-- The power of ten as pow10Tab has it. -/
def powHi (p : Nat) : Nat := 10 ^ p * 2 ^ (63 - lg2 p)
/-- The tables that FormatFloat reads. -/
structure FmtVars (w : World) : Prop where
  tab : ∀ p, 1 ≤ p → p ≤ 5 → w.cell? ⟨6, (p + 348) * 2, none⟩ = some (.int .u64 (powHi p)) ∧ w.cell? ⟨6, (p + 348) * 2 + 1, none⟩ = some (.int .u64 (0 : Nat))
  ten : ∀ n, n < 20 → w.cell? ⟨3, n, none⟩ = some (.int .u64 ((10 ^ n : Nat) : Int))
  opt : w.cell? ⟨0, 0, none⟩ = some (.bool true)
theorem FmtVars.below {w w' : World} (h : FmtVars w) (hb : Below w.heap.size w w') : FmtVars w' :=
  ⟨fun p h1 h2 => ⟨(hb.cell (block_lt_of_cell (h.tab p h1 h2).1)).trans (h.tab p h1 h2).1, (hb.cell (block_lt_of_cell (h.tab p h1 h2).2)).trans (h.tab p h1 h2).2⟩,
   fun n hn => (hb.cell (block_lt_of_cell (h.ten n hn))).trans (h.ten n hn), (hb.cell (block_lt_of_cell h.opt)).trans h.opt⟩

theorem powHi_facts : ∀ p : Fin 6, powHi p.val < 18446744073709551616 ∧ lg2 p.val ≤ 16 := by decide +kernel

theorem uscale_at (S t p B : Nat) (w : World) (hS2 : S < 9007199254740992) (ht : 16 ≤ t) (hp5 : p ≤ 5) (hl1 : lg2 p ≤ 8 + t) (hl2 : 8 + t ≤ 63 + lg2 p)
    (c0 : w.cell? ⟨B, 0, none⟩ = some (.int .u64 (powHi p))) (c1 : w.cell? ⟨B, 1, none⟩ = some (.int .u64 0)) (c2 : w.cell? ⟨B, 2, none⟩ = some (.int .i64 (-(-(t : Int) - 11 + (lg2 p : Int) + 3)))) :
    Calls Tryd.prog 67 #[.int .u64 ((S : Int) * 2048), .pointer (some ⟨B, 0, none⟩)] w fun e w' => e = .returned (.int .u64 (scaled (S * 10 ^ p) (2 ^ (t - 2)) : Nat)) ∧ Below w.heap.size w w' := by
  obtain ⟨hi1, hi2⟩ := powHi_facts ⟨p, by omega⟩
  dsimp only at hi1 hi2
  have e2 : -(-(t : Int) - 11 + (lg2 p : Int) + 3) = ((t + 8 - lg2 p : Nat) : Int) := by omega
  rw [e2] at c2
  have h := uscale_any (S * 2048) (powHi p) (t + 8 - lg2 p) B w (by omega) hi1 (by omega) (by
    have : S * 2048 * powHi p = 2048 * (S * powHi p) := by ac_rfl
    rw [this]; omega) c0 c1 c2
  have e3 : S * 2048 * powHi p = S * 10 ^ p * 2 ^ (74 - lg2 p) := by
    have : 2 ^ (74 - lg2 p) = 2 ^ 11 * 2 ^ (63 - lg2 p) := psplit 11 (63 - lg2 p) (74 - lg2 p) (by omega)
    rw [this]; unfold powHi
    have : (2048 : Nat) = 2 ^ 11 := by decide
    rw [this]; ac_rfl
  have e4 : 2 ^ (64 + (t + 8 - lg2 p)) = 2 ^ (t - 2) * 2 ^ (74 - lg2 p) := psplit (t - 2) (74 - lg2 p) _ (by omega)
  rw [e3, e4, scaled_mul _ _ _ (Nat.two_pow_pos _)] at h
  have e5 : ((S * 2048 : Nat) : Int) = (S : Int) * 2048 := by omega
  rw [e5] at h
  exact h

set_option maxRecDepth 100000 in
set_option maxHeartbeats 1000000 in
theorem fixed_any (S t k m n p : Nat) (w : World) (hv : FmtVars w) (hS2 : S < 9007199254740992) (hk : 0 < k) (hk2 : k ≤ 4) (ht : 16 ≤ t) (ht2 : t ≤ 66) (hp : placeP t k = p) (hn : digitsN t k = n) (hn1 : 1 ≤ n) (hn2 : n ≤ 18) (hp5 : p ≤ 5) (hp1 : 1 ≤ p) (hl1 : lg2 p ≤ 8 + t) (hl2 : 8 + t ≤ 63 + lg2 p)
    (hc : (p = k ∧ roundU (scaled (S * 10 ^ p) (2 ^ (t - 2))) = m ∧ scaled (S * 10 ^ p) (2 ^ (t - 2)) < 4 * 10 ^ n - 2) ∨ (p = k + 1 ∧ roundU (divU (scaled (S * 10 ^ p) (2 ^ (t - 2)))) = m)) :
    Calls Tryd.prog 51 #[.int .u64 (S * 2048 : Nat), .int .i64 (-(t : Int) - 11), .int .i64 n, .int .i64 k, .int .u8 102] w fun e w' => e = .returned (.tuple #[.int .u64 m, .int .i64 (-(k : Int))]) ∧ Below w.heap.size w w' := by
  obtain ⟨hi1, hi2⟩ := powHi_facts ⟨p, by omega⟩
  dsimp only at hi1 hi2
  obtain ⟨hc0, hc1⟩ := hv.tab p hp1 hp5
  have hten := hv.ten n (by omega)
  have hb6 := block_lt_of_cell hc0
  have hb3 := block_lt_of_cell hten
  dsimp only at hb6 hb3
  have hs10 : 1 ≤ 10 ^ n := Nat.pow_pos (by omega)
  have hs18 : 10 ^ n ≤ 1000000000000000000 := by
    have : 10 ^ n ≤ 10 ^ 18 := Nat.pow_le_pow_right (by omega) hn2
    omega
  obtain ⟨X, hX⟩ : ∃ X, 10 ^ n = X := ⟨_, rfl⟩
  rw [hX] at hten hs10 hs18 hc
  have hul : scaled (S * 10 ^ p) (2 ^ (t - 2)) < 9223372036854775808 := by
    have a1 : 10 ^ p ≤ 10 ^ 5 := Nat.pow_le_pow_right (by omega) hp5
    have a2 : S * 10 ^ p ≤ S * 10 ^ 5 := Nat.mul_le_mul_left _ a1
    have a3 : 2 ^ 14 ≤ 2 ^ (t - 2) := Nat.pow_le_pow_right (by omega) (by omega)
    have a4 : S * 10 ^ p / 2 ^ (t - 2) ≤ S * 10 ^ p / 2 ^ 14 := Nat.div_le_div_left a3 (by decide)
    unfold scaled stick
    split <;> omega
  have HU := Lib.hid (fun B wx => uscale_at S t p B wx hS2 ht hp5 hl1 hl2)
  generalize scaled (S * 10 ^ p) (2 ^ (t - 2)) = u at *
  clear hX
  have hpl : (n : Int) - 1 - lg10 (52 - (t : Int)) = p := by rw [← hp]; unfold placeP; rw [hn]
  have hlgb : -100 ≤ lg10 (52 - (t : Int)) ∧ lg10 (52 - (t : Int)) ≤ 100 := by unfold lg10; omega
  have hw1 : IntKind.i64.wrap (-(t : Int) - 11 + 63) = 52 - t := by rw [IntKind.wrap_i64]; omega
  have HL := Lib.hid (fun wx => log10_any (52 - (t : Int)) wx (by omega) (by omega))
  have HL2 := Lib.hid (fun wx => log2_any p wx (by omega))
  go_enter Tryd.func51, Tryd.ntmps51
  generalize lg10 (52 - (t : Int)) = LG at *
  have hLG : LG = (n : Int) - 1 - p := by omega
  subst hLG
  go_wp2_with fail
  refine (HL.out _).mono ?_
  rintro e w' ⟨rfl, rfl⟩
  have hw2 : IntKind.i64.wrap ((n : Int) - 1 - ((n : Int) - 1 - (p : Int))) = p := by rw [IntKind.wrap_i64]; omega
  have hw3 : (n : Int) - 1 - ((n : Int) - 1 - (p : Int)) = p := by omega
  go_wp2_with (first | (go_at_call 66; refine (HL2.out _).mono ?_; rintro e w' ⟨rfl, rfl⟩) | (go_at_call 65; go_in))
  refine (HU.out w.heap.size _ (by simp) (by simp) (by simp)).mono ?_
  rintro e w2 ⟨rfl, hb2⟩
  have hbw := ((Below.refl w.heap.size w).alloc (Nat.le_refl _) (.cells #[.int .u64 (powHi p), .int .u64 0, .int .i64 (-(-(t : Int) - 11 + (lg2 p : Int) + 3))] 109)).trans (hb2.mono (by simp))
  have hten2 := (hbw.cell hb3).trans hten
  have HB := Lib.hid hbw
  clear hb2 hbw hten hc0 hc1
  go_wp2_with fail
  refine (unmin_any X _ hs10 hs18).mono ?_
  rintro e w3 ⟨rfl, rfl⟩
  have hd : divU u < 9223372036854775808 := by unfold divU stick; split <;> split <;> omega
  have HR := Lib.hid (fun wx => roundU_any u wx hul)
  have HR2 := Lib.hid (fun wx => roundU_any (divU u) wx hd)
  have HD := Lib.hid (fun wx => divU_any u wx (by omega))
  obtain ⟨Z, hZ⟩ : ∃ Z, 4 * X - 2 = Z := ⟨_, rfl⟩
  rw [hZ] at hc ⊢
  have HC := Lib.hid hc
  clear hc hZ hp hn
  have hkw : IntKind.i64.wrap (-(k : Int)) = -(k : Int) := by rw [IntKind.wrap_i64]; omega
  rcases HC.out with ⟨q1, q2, q3⟩ | ⟨q1, q2⟩
  · subst q1
    have q3' : ¬ (Z : Int) ≤ (u : Int) := by omega
    rw [q2] at HR
    clear q2 q3
    go_wp2_with fail
    refine wp_loop_rounds 1 ?_
    rw [rounds_succ]
    go_wp2_with (go_at_call 71; refine (HR.out _).mono ?_; rintro e w4 ⟨rfl, rfl⟩)
    go_ret2
    exact ⟨rfl, HB.out⟩
  · rw [q2] at HR2
    subst q1
    clear q2
    rcases Nat.lt_or_ge u Z with q3 | q3
    · have q3' : ¬ (Z : Int) ≤ (u : Int) := by omega
      go_wp2_with fail
      refine wp_loop_rounds 2 ?_
      rw [rounds_succ]
      go_wp2_with fail
      refine (HD.out _).mono ?_
      rintro e w4 ⟨rfl, hb4⟩
      have HB2 := Lib.hid (HB.out.trans (hb4.mono HB.out.size))
      clear hb4
      go_wp2_with fail
      rw [rounds_succ]
      go_wp2_with (go_at_call 71; refine (HR2.out _).mono ?_; rintro e w5 ⟨rfl, rfl⟩)
      go_ret2
      exact ⟨rfl, HB2.out⟩
    · have q3' : (Z : Int) ≤ (u : Int) := by omega
      go_wp2_with fail
      refine (HD.out _).mono ?_
      rintro e w4 ⟨rfl, hb4⟩
      have HB2 := Lib.hid (HB.out.trans (hb4.mono HB.out.size))
      clear hb4
      go_wp2_with fail
      refine wp_loop_rounds 1 ?_
      rw [rounds_succ]
      go_wp2_with (go_at_call 71; refine (HR2.out _).mono ?_; rintro e w5 ⟨rfl, rfl⟩)
      go_ret2
      exact ⟨rfl, HB2.out⟩
end Go.Proofs.YtodlhjdogcpffaaDoor
