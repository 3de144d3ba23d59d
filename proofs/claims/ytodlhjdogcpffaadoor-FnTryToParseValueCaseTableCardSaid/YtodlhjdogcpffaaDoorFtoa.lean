/- ftoa64 at 'f' over the word of m/10^k, 0 < m. -/
import Derived.Test.YtodlhjdogcpffaaDoorFmtEfg
import Derived.Deep.RegionWith
namespace Go.Proofs.YtodlhjdogcpffaaDoor
open Go.RowKit

theorem run_tobits2 (b : Nat) (w : World) : (callFunc 42 #[.float .f64 b]).run Tryd.prog w = .ok (.value (.int .u64 b)) w :=
  (run_callFunc_extern (e := Extern.MathFloatBits.float64bits) Tryd.func42 (by kernel_rfl) (by kernel_rfl) (by kernel_rfl) (by kernel_rfl) _ w).trans rfl

/-- The fields of the word. -/
theorem fields (neg : Bool) (S E : Nat) (hS : 4503599627370496 ≤ S) (hS2 : S < 9007199254740992) (hE : E ≤ 1100) (hE1 : 1 ≤ E) : ∃ b F, Ieee.double.word neg ((E - 1) * 4503599627370496 + S) = b ∧ b < 18446744073709551616 ∧ (((b : Int) / 9223372036854775808) != 0) = neg ∧ b / 4503599627370496 % 2048 = E ∧ b % 4503599627370496 = F ∧ F + 4503599627370496 = S ∧ b / 4503599627370496 < 4096 := by
  have es : Ieee.double.signWeight = 9223372036854775808 := rfl
  unfold Ieee.Format.word
  rw [es]
  cases neg
  · refine ⟨_, _, rfl, ?_, ?_, ?_, rfl, ?_, ?_⟩
    · simp only [Bool.false_eq_true, if_false]; omega
    · simp only [Bool.false_eq_true, if_false]; rw [bne_eq_false_iff_eq]; omega
    · simp only [Bool.false_eq_true, if_false]; omega
    · simp only [Bool.false_eq_true, if_false]; omega
    · simp only [Bool.false_eq_true, if_false]; omega
  · refine ⟨_, _, rfl, ?_, ?_, ?_, rfl, ?_, ?_⟩
    · simp only [if_true]; omega
    · simp only [if_true]; rw [bne_iff_ne]; omega
    · simp only [if_true]; omega
    · simp only [if_true]; omega
    · simp only [if_true]; omega
def allIn (f : Nat → Bool) (lo : Nat) : Nat → Bool
  | 0 => f lo
  | n + 1 => allIn f lo n && allIn f (lo + 2 ^ n) n
theorem allIn_at {f : Nat → Bool} : ∀ {n lo : Nat}, allIn f lo n = true → ∀ d, lo ≤ d → d < lo + 2 ^ n → f d = true
  | 0, lo, h, d, h1, h2 => by
    have : d = lo := by omega
    subst this; exact h
  | n + 1, lo, h, d, h1, h2 => by
    rw [allIn, Bool.and_eq_true] at h
    rw [Nat.pow_succ] at h2
    by_cases hd : d < lo + 2 ^ n
    · exact allIn_at h.1 d h1 hd
    · exact allIn_at h.2 d (by omega) (by omega)
theorem and_2047 (x : Nat) (h : x < 4096) : bits .and .i64 (x : Int) 2047 = ((x % 2048 : Nat) : Int) := by
  have h1 : allIn (fun i => bits .and .i64 (i : Int) 2047 == ((i % 2048 : Nat) : Int)) 0 12 = true := by decide +kernel
  have := allIn_at h1 x (Nat.zero_le _) (by omega)
  simpa using this
theorem and_52 (x : Nat) (h : x < 18446744073709551616) : bits .and .u64 (x : Int) 4503599627370495 = ((x % 4503599627370496 : Nat) : Int) := by
  have := u64_and_nat x 4503599627370495 h (by omega)
  have e : ((4503599627370495 : Nat) : Int) = 4503599627370495 := rfl
  rw [e] at this
  rw [this, show 4503599627370495 = 2 ^ 52 - 1 by decide, Nat.and_two_pow_sub_one_eq_mod]
theorem or_52 (F : Nat) (h : F < 4503599627370496) : bits .or .u64 (F : Int) 4503599627370496 = ((F + 4503599627370496 : Nat) : Int) := by
  have := u64_or_nat F 4503599627370496 (by omega) (by omega)
  have e : ((4503599627370496 : Nat) : Int) = 4503599627370496 := rfl
  rw [e] at this
  rw [this]
  have h2 := Nat.two_pow_add_eq_or_of_lt (i := 52) (by omega : F < 2 ^ 52) 1
  rw [Nat.mul_one] at h2
  rw [show (4503599627370496 : Nat) = 2 ^ 52 by decide, Nat.or_comm, ← h2, Nat.add_comm]
theorem bitLen53 (S : Nat) (hS : 4503599627370496 ≤ S) (hS2 : S < 9007199254740992) : Lib.bitLen S = 53 := by
  rw [Lib.bitLen_shift 52 S (by omega) (by omega)]
  have : S / 2 ^ 52 = 1 := by omega
  rw [this]; rfl

theorem fresh_zero (w : World) (nq : Nat) (T : TypeId) : ∀ j, j < 24 → ((w.drewN nq).alloc (.cells (Array.replicate 24 (.int .u8 0)) T)).cell? ⟨w.heap.size, j, none⟩ = some (.int .u8 0) ∧ ((w.drewN nq).alloc (.cells (Array.replicate 24 (.int .u8 0)) T)).frozen? ⟨w.heap.size, j, none⟩ = false := by
  intro j hj
  have hh : ((w.drewN nq).alloc (.cells (Array.replicate 24 (.int .u8 0)) T)).heap[w.heap.size]? = some (.cells (Array.replicate 24 (.int .u8 0)) T (0, 0)) := heap_alloc_new (w.drewN nq) _
  generalize ((w.drewN nq).alloc (.cells (Array.replicate 24 (.int .u8 0)) T)) = w1 at *
  refine ⟨?_, ?_⟩
  · refine (cell_of_row _ _ _ _ _ _ hh).trans ?_
    simp [hj]
  · simp [World.frozen?, hh]

theorem efg_all (neg : Bool) (m k nz D B : Nat) (dp : Int) (w0 w : World) (h : Out D B m 0 [] w0 w) (hk : 0 < k) (hk4 : k ≤ 4) (hN : Lib.nDigits m ≤ 13) (hz : Kept m nz) (hdp : dp = (Lib.nDigits m : Int) - k) :
    Calls Tryd.prog 45 #[.slice (some ⟨D, 0, none⟩) 0 24, .bool neg, .slice (some ⟨B, 0, none⟩) 24 24, .int .i64 dp, .int .i64 nz, .int .i64 k, .int .u8 102, .bool false] w fun e w' => ∃ n, e = .returned (.slice (some ⟨D, 0, none⟩) n 24) ∧ Out D B m n (fixText neg m k) w0 w' := by
  obtain ⟨P, LZ, OFF, MID, TZ, M1, hp⟩ := plan_of (Lib.nDigits m) k nz hk hz.le
  rw [← hdp] at hp
  cases neg
  · by_cases hd : 0 < dp
    · exact efg_pos_in m k nz D B dp w0 w P LZ OFF MID TZ M1 h hk hk4 hN hz hp hdp hd
    · exact efg_pos_out m k nz D B dp w0 w P LZ OFF MID TZ M1 h hk hk4 hN hz hp hdp hd
  · by_cases hd : 0 < dp
    · exact efg_neg_in m k nz D B dp w0 w P LZ OFF MID TZ M1 h hk hk4 hN hz hp hdp hd
    · exact efg_neg_out m k nz D B dp w0 w P LZ OFF MID TZ M1 h hk hk4 hN hz hp hdp hd
theorem owns_below {w w' : World} {base : Nat} {e : TypeId} {v : Value} {n : Nat} {xs : List Value} (h : w.ownsRow base e 1 v n xs) (hb : Below w.heap.size w w') : w'.ownsRow base e 1 v n xs :=
  h.kept (row := none) ⟨hb.os, hb.tape, hb.output, hb.size, fun k hk _ => hb.block k hk⟩ (by cases hv : v.ownBlock <;> simp)
theorem owns_lt {w : World} {base : Nat} {e : TypeId} {D n c : Nat} {xs : List Value} (h : w.ownsRow base e 1 (.slice (some ⟨D, 0, none⟩) n c) n xs) : D < w.heap.size := by
  obtain ⟨_, h1 | ⟨g, cap, cur, h1, _, h2, _⟩⟩ := h
  · cases h1.1
  · simp only [Value.slice.injEq, Option.some.injEq, Addr.mk.injEq] at h1
    rw [← h1.1.1] at h2
    exact (Array.getElem?_eq_some_iff.1 h2).1
theorem zeros_below {w w' : World} {B : Nat} (h : ∀ j, j < 24 → w.cell? ⟨B, j, none⟩ = some (.int .u8 0) ∧ w.frozen? ⟨B, j, none⟩ = false) (hb : Below w.heap.size w w') : ∀ j, j < 24 → w'.cell? ⟨B, j, none⟩ = some (.int .u8 0) ∧ w'.frozen? ⟨B, j, none⟩ = false := fun j hj =>
  ⟨(hb.cell (block_lt_of_cell (h j hj).1)).trans (h j hj).1, (hb.frozen (block_lt_of_cell (h j hj).1)).trans (h j hj).2⟩

set_option maxRecDepth 100000 in
set_option maxHeartbeats 2000000 in
theorem ftoa_any (neg : Bool) (S E t m k D : Nat) (w w0 : World) (hv : FmtVars w) (htab : ∀ wx, Below w.heap.size w wx → Lib.TabIs Tryd.prog wx "internal/strconv.uint64pow10" .u64 Lib.pow10Tab) (ho : w.ownsRow w0.heap.size 5 1 (.slice (some ⟨D, 0, none⟩) 0 24) 0 []) (hb : Below w0.heap.size w0 w)
    (hS : 4503599627370496 ≤ S) (hS2 : S < 9007199254740992) (hE : E + t = 1075) (hE2 : 900 ≤ E) (hk : 0 < k) (hk2 : k ≤ 4) (hm : 0 < m) (hm2 : m ≤ 1099511627776) (h1 : S * 10 ^ k ≤ m * 2 ^ t + 10 ^ k) (h2 : m * 2 ^ t ≤ S * 10 ^ k + 10 ^ k) :
    Calls Tryd.prog 35 #[.slice (some ⟨D, 0, none⟩) 0 24, .float .f64 (Ieee.double.word neg ((E - 1) * 4503599627370496 + S)), .int .u8 102, .int .i64 k] w fun e w' => ∃ n B, e = .returned (.slice (some ⟨D, 0, none⟩) n 24) ∧ Out D B m n (fixText neg m k) w0 w' := by
  obtain ⟨ht1, ht2, p, n, r1, r2, r3, r4, r5, r6, r7, r8, r9⟩ := fix_round S m t k hS hS2 hk hk2 hm hm2 h1 h2
  obtain ⟨b, F, b1, b2, b3, b4, b5, b6, b7⟩ := fields neg S E hS hS2 (by omega) (by omega)
  rw [b1]
  have hx1 := and_2047 (b / 4503599627370496) b7
  have hx2 := and_52 b b2
  have hx3 := or_52 F (by omega)
  rw [b4] at hx1
  rw [b5] at hx2
  rw [b6] at hx3
  have ec : (((b / 4503599627370496 : Nat)) : Int) = (b : Int) / 4503599627370496 := by omega
  rw [ec] at hx1
  have hfb := run_tobits2
  have HV := Lib.hid hv
  have HO := Lib.hid (And.intro ho hb)
  have HT := Lib.hid htab
  have hopt := hv.opt
  clear b1 ho hb htab hv
  have g1 : ((E : Int) == 2047) = false := by rw [beq_eq_false_iff_ne]; omega
  have g2 : ((E : Int) == 0) = false := by rw [beq_eq_false_iff_ne]; omega
  have g3 : ((S : Int) == 0) = false := by rw [beq_eq_false_iff_ne]; omega
  go_enter Tryd.func35, Tryd.ntmps35
  go_wp2_with fail
  have HFX := Lib.hid (fun wx hvx => fixed_any S t k m n p wx hvx hS2 hk hk2 ht1 ht2 r1 r2 r3 r4 r5 r6 r7 r8 r9)
  have ex1 : ((S * 2048 : Nat) : Int) = (S : Int) * 2048 := by omega
  have ex2 : -(t : Int) - 11 = 52 - (t : Int) - 11 - 52 := by omega
  rw [ex1, ex2] at HFX
  have hmI : ((m : Int) == 0) = false := by rw [beq_eq_false_iff_ne]; omega
  have hN13 : Lib.nDigits m ≤ 13 := nDigits_le m 13 (by omega) (by omega)
  have HND := Lib.hid (fun wx hb => Tryd.internal_strconv_numDigits m (by omega) (by omega) wx (HT.out wx hb))
  have hnI : (0 : Int) < n := by omega
  have hnI2 : (n : Int) ≤ 18 := by omega
  have hEI : (E : Int) + -1023 = 52 - (t : Int) := by omega
  have hq1 : 1 + (52 - (t : Int)) = 53 - t := by omega
  have hq2 : -(52 - (t : Int)) = t - 52 := by omega
  have hbl := bitLen53 S hS hS2
  have HL64 := Lib.hid (fun wx => Tryd.bits_Len64 (S : Int) wx (by omega) (by omega))
  rcases Nat.lt_or_ge 52 t with ht | ht
  · have HLG := Lib.hid (fun wx => log10_any ((t : Int) - 52) wx (by omega) (by omega))
    have hLG : 1 + (k : Int) - lg10 ((t : Int) - 52) = n := by rw [← r2]; unfold digitsN; rw [if_neg (by omega)]
    generalize lg10 ((t : Int) - 52) = LG at *
    go_quiet (fail)
    go_wp2_with fail
    refine (HLG.out _).mono ?_
    rintro e w2 ⟨rfl, rfl⟩
    clear HLG
    go_wp2_with fail
    generalize hw1 : ((w.drewN nq).alloc _) = w1
    have hzz : ∀ j, j < 24 → w1.cell? ⟨w.heap.size, j, none⟩ = some (.int .u8 0) ∧ w1.frozen? ⟨w.heap.size, j, none⟩ = false := by
      rw [← hw1]; exact fresh_zero w nq _
    have hb1 : Below w.heap.size w w1 := by rw [← hw1]; exact (drewN_below w nq).alloc (Nat.le_refl _) _
    clear hw1
    have HB1 := Lib.hid (And.intro hzz hb1)
    clear hzz hb1
    refine (HL64.out _).mono ?_
    rintro e w2 ⟨rfl, rfl⟩
    clear hLG
    go_wp2_with fail
    refine (HFX.out _ (HV.out.below HB1.out.2)).mono ?_
    rintro e w3 ⟨rfl, hb3⟩
    have HB3 := Lib.hid (And.intro (zeros_below HB1.out.1 hb3) (HB1.out.2.trans (hb3.mono HB1.out.2.size)))
    clear hb3
    go_wp2_with fail
    have HB4 : Hid ((∀ j, j < 24 → w3.drew.cell? ⟨w.heap.size, j, none⟩ = some (.int .u8 0) ∧ w3.drew.frozen? ⟨w.heap.size, j, none⟩ = false) ∧ Below w.heap.size w w3.drew) := Lib.hid ⟨fun j hj => HB3.out.1 j hj, HB3.out.2.drew⟩
    go_region_with (first | (go_at_call 49; refine (HND.out _ HB4.out.2).mono ?_; rintro e w4 ⟨rfl, rfl⟩) | (go_at_call 48; refine (set_any m k w.heap.size _ w (Nat.le_refl _) HB4.out.2 HB4.out.1 hm hm2 hk2).mono ?_; rintro e w5 ⟨nz, rfl, hz5, hd5, hb5⟩))
    have HO5 : Hid (Out D w.heap.size m 0 [] w0 w5) := Lib.hid ⟨owns_below HO.out.1 hb5, HO.out.2.trans (hb5.mono HO.out.2.size), hd5, by have := owns_lt HO.out.1; omega⟩
    have HZ5 := Lib.hid hz5
    clear hz5 hd5 hb5
    go_wp2_with fail
    refine (efg_all neg m k nz D w.heap.size _ w0 _ HO5.out hk hk2 hN13 HZ5.out rfl).mono ?_
    rintro e w6 ⟨n6, rfl, ho6⟩
    have HO6 := Lib.hid ho6
    clear ho6
    go_wp2
    go_ret
    exact ⟨_, _, rfl, HO6.out⟩
  · have HLG := Lib.hid (fun wx => log10_any (53 - (t : Int)) wx (by omega) (by omega))
    have hLG : 1 + lg10 (53 - (t : Int)) + (k : Int) = n := by rw [← r2]; unfold digitsN; rw [if_pos (by omega)]
    generalize lg10 (53 - (t : Int)) = LG at *
    go_quiet (fail)
    go_wp2_with fail
    refine (HLG.out _).mono ?_
    rintro e w2 ⟨rfl, rfl⟩
    clear HLG
    go_wp2_with fail
    generalize hw1 : ((w.drewN nq).alloc _) = w1
    have hzz : ∀ j, j < 24 → w1.cell? ⟨w.heap.size, j, none⟩ = some (.int .u8 0) ∧ w1.frozen? ⟨w.heap.size, j, none⟩ = false := by
      rw [← hw1]; exact fresh_zero w nq _
    have hb1 : Below w.heap.size w w1 := by rw [← hw1]; exact (drewN_below w nq).alloc (Nat.le_refl _) _
    clear hw1
    have HB1 := Lib.hid (And.intro hzz hb1)
    clear hzz hb1
    refine (HL64.out _).mono ?_
    rintro e w2 ⟨rfl, rfl⟩
    clear hLG
    go_wp2_with fail
    refine (HFX.out _ (HV.out.below HB1.out.2)).mono ?_
    rintro e w3 ⟨rfl, hb3⟩
    have HB3 := Lib.hid (And.intro (zeros_below HB1.out.1 hb3) (HB1.out.2.trans (hb3.mono HB1.out.2.size)))
    clear hb3
    go_wp2_with fail
    have HB4 : Hid ((∀ j, j < 24 → w3.drew.cell? ⟨w.heap.size, j, none⟩ = some (.int .u8 0) ∧ w3.drew.frozen? ⟨w.heap.size, j, none⟩ = false) ∧ Below w.heap.size w w3.drew) := Lib.hid ⟨fun j hj => HB3.out.1 j hj, HB3.out.2.drew⟩
    go_region_with (first | (go_at_call 49; refine (HND.out _ HB4.out.2).mono ?_; rintro e w4 ⟨rfl, rfl⟩) | (go_at_call 48; refine (set_any m k w.heap.size _ w (Nat.le_refl _) HB4.out.2 HB4.out.1 hm hm2 hk2).mono ?_; rintro e w5 ⟨nz, rfl, hz5, hd5, hb5⟩))
    have HO5 : Hid (Out D w.heap.size m 0 [] w0 w5) := Lib.hid ⟨owns_below HO.out.1 hb5, HO.out.2.trans (hb5.mono HO.out.2.size), hd5, by have := owns_lt HO.out.1; omega⟩
    have HZ5 := Lib.hid hz5
    clear hz5 hd5 hb5
    go_wp2_with fail
    refine (efg_all neg m k nz D w.heap.size _ w0 _ HO5.out hk hk2 hN13 HZ5.out rfl).mono ?_
    rintro e w6 ⟨n6, rfl, ho6⟩
    have HO6 := Lib.hid ho6
    clear ho6
    go_wp2
    go_ret
    exact ⟨_, _, rfl, HO6.out⟩
end Go.Proofs.YtodlhjdogcpffaaDoor
