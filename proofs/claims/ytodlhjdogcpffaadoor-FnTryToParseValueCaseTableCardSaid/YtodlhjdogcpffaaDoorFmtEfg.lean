/- fmtEFG at 'f': the walk. -/
import Derived.Test.YtodlhjdogcpffaaDoorFmtOut
namespace Go.Proofs.YtodlhjdogcpffaaDoor
open Go.RowKit

set_option maxRecDepth 100000 in
set_option maxHeartbeats 4000000 in
theorem efg_pos_in (m k nz D B : Nat) (dp : Int) (w0 w : World) (P LZ OFF MID TZ M1 : Nat) (h : Out D B m 0 [] w0 w) (hk : 0 < k) (hk4 : k ≤ 4) (hN : Lib.nDigits m ≤ 13) (hz : Kept m nz) (hp : Plan (Lib.nDigits m) k nz dp P LZ OFF MID TZ M1) (hdp : dp = (Lib.nDigits m : Int) - k) (hd : 0 < dp) :
    Calls Tryd.prog 45 #[.slice (some ⟨D, 0, none⟩) 0 24, .bool false, .slice (some ⟨B, 0, none⟩) 24 24, .int .i64 dp, .int .i64 nz, .int .i64 k, .int .u8 102, .bool false] w fun e w' => ∃ n, e = .returned (.slice (some ⟨D, 0, none⟩) n 24) ∧ Out D B m n (fixText false m k) w0 w' := by
  obtain ⟨i0, hi0, hi1⟩ := byte_info
  have HO := Lib.hid h
  have HZ := Lib.hid hz
  have HP := Lib.hid hp
  have hdb1 : -4 ≤ dp := by omega
  have hdb2 : dp ≤ 13 := by omega
  have hnz := hz.le
  have q1 := hp.m1le
  have q2 := hp.sum
  have q3 := hp.whole
  have q4 := hp.place
  have q5 := hp.few
  have HF := Lib.hid (And.intro q1 (And.intro q2 (And.intro q3 (And.intro q4 (And.intro q5 (And.intro hnz hN))))))
  have hM13 : M1 ≤ 13 := by omega
  have hLZ : min (k : Int) (max 0 (-dp)) = LZ := hp.lz
  have hLZb : LZ ≤ 4 := by omega
  have hOFF : dp + (LZ : Int) = OFF := hp.off
  have hOFFb : OFF ≤ 13 := by omega
  have hMID : min ((k : Int) - LZ) (max 0 ((nz : Int) - OFF)) = MID := hp.mid
  have hMIDb : MID ≤ 4 := by omega
  have hTZ : max 0 ((k : Int) - LZ - MID) = TZ := hp.tz
  have hTZb : TZ ≤ 4 := by omega
  have hnzb : nz ≤ 13 := by omega
  have hkI : (0 : Int) < k := by omega
  have hw0 : wrap64 (-dp) = -dp := by unfold wrap64; omega
  have hw1 : wrap64 (dp + (LZ : Int)) = OFF := by unfold wrap64; omega
  have hw2 : wrap64 ((k : Int) - LZ) = (k : Int) - LZ := by unfold wrap64; omega
  have hw3 : wrap64 ((nz : Int) - OFF) = (nz : Int) - OFF := by unfold wrap64; omega
  have hw4 : wrap64 ((k : Int) - LZ - MID) = (k : Int) - LZ - MID := by unfold wrap64; omega
  have hPb : P ≤ 13 := by omega
  have hM1 : min (nz : Int) dp = M1 := hp.m1 hd
  have hdP : dp = P := hp.dpP hd
  have hw5 : wrap64 (dp - (M1 : Int)) = ((P - M1 : Nat) : Int) := by unfold wrap64; omega
  have hw6 : dp - (M1 : Int) = ((P - M1 : Nat) : Int) := by omega
  obtain ⟨L2, hL2⟩ : ∃ L2, P - M1 = L2 := ⟨_, rfl⟩
  rw [hL2] at hw5 hw6
  have hL2b : L2 ≤ 13 := by omega
  have HL := Lib.hid (And.intro hL2 hdP)
  clear hL2 hdP
  clear h hz hp hdp q1 q2 q3 q4 q5 hN hnz
  go_enter Tryd.func45, Tryd.ntmps45
  have H1 := HO
  go_wp2_with fail
  go_loopw [0, 25, 191] (fun d _ i wr => ∃ q : Nat, i = .int .i64 q ∧ q ≤ M1 ∧ d = .slice (some ⟨D, 0, none⟩) (q) 24 ∧ Out D B m (q) ([] ++ (digs (m / 10 ^ k) P).take q) w0 wr) (fun _ _ i _ => M1 - (intOf i).toNat)
  case atStart => exact ⟨0, rfl, Nat.zero_le _, rfl, H1.out.same rfl (by simp)⟩
  case round =>
    obtain ⟨q, rfl, hq, rfl, hout⟩ := hrel
    have HO2 := Lib.hid hout
    clear hout
    rcases Nat.lt_or_ge q M1 with hlt | hge
    · have hqP : q < P := by have := HF.out.1; omega
      have hqN : q < Lib.nDigits m := by have := HF.out; omega
      obtain ⟨b, hb⟩ : ∃ b, (digs (m / 10 ^ k) P)[q]'(by rw [digs_length]; exact hqP) = b := ⟨_, rfl⟩
      have hc := HO2.out.dig q hqN
      rw [digit_byte, ← in_digit HP.out q hqP, hb] at hc
      unfold byteV at hc
      have HB := Lib.hid hb
      clear hb
      have hqI : (q : Int) < M1 := by omega
      obtain ⟨x2, hx2⟩ := HO2.out.open
      have Hx2 := Lib.hid hx2
      clear hx2
      have NHx2 := Lib.hid (show q + 1 ≤ 24 by first | omega | (have := HF.out; omega) | (have := HF.out; have := HL.out; omega))
      go_wp2_with (at_builtin; refine wpList_append_fits _ rfl _ _ 49 rfl w0.heap.size 5 i0 1 Tryd.underlying49 hi0 hi1 D _ 24 _ rfl (Hx2.out.2.alloc _) ⟨_, 0, none⟩ 1 1 [.int .u8 (b.toNat : Int)] rfl rfl (one_cell _ _ _) (u8_one _) (NHx2.out) ?_)
      intro w2 ho2 hg2
      have hpu := Lib.hid (HO2.out.add Hx2.out.1 b rfl ho2 hg2)
      clear ho2 hg2
      go_wp2
      exact ⟨⟨q + 1, by simp, by omega, rfl, hpu.out.same rfl (by rw [← HB.out, take_push])⟩, by simp [intOf]; omega⟩
    · obtain rfl : q = M1 := by omega
      go_wp2_with fail
      go_loopw [0, 203] (fun d i wr => ∃ q2 : Nat, i = .int .i64 q2 ∧ q2 ≤ L2 ∧ d = .slice (some ⟨D, 0, none⟩) (q + q2) 24 ∧ Out D B m (q + q2) ([] ++ (digs (m / 10 ^ k) P).take (q + q2)) w0 wr) (fun _ i _ => L2 - (intOf i).toNat)
      case atStart => exact ⟨0, rfl, Nat.zero_le _, rfl, HO2.out⟩
      case round =>
        obtain ⟨q2, rfl, hq2, rfl, hout⟩ := hrel
        have HO3 := Lib.hid hout
        clear hout
        rcases Nat.lt_or_ge q2 L2 with hlt2 | hge2
        · have hqP : q + q2 < P := by have := HL.out.1; omega
          have hzr := in_zero HP.out HZ.out (q + q2) hqP (by omega)
          have HB := Lib.hid hzr
          clear hzr
          have hqI : (q2 : Int) < L2 := by omega
          obtain ⟨x3, hx3⟩ := HO3.out.open
          have Hx3 := Lib.hid hx3
          clear hx3
          have NHx3 := Lib.hid (show q + q2 + 1 ≤ 24 by first | omega | (have := HF.out; omega) | (have := HF.out; have := HL.out; omega))
          go_wp2_with (at_builtin; refine wpList_append_fits _ rfl _ _ 49 rfl w0.heap.size 5 i0 1 Tryd.underlying49 hi0 hi1 D _ 24 _ rfl (Hx3.out.2.alloc _) ⟨_, 0, none⟩ 1 1 [.int .u8 48] rfl rfl (one_cell _ _ _) (u8_one _) (NHx3.out) ?_)
          intro w2 ho2 hg2
          have hpu := Lib.hid (HO3.out.add Hx3.out.1 48 rfl ho2 hg2)
          clear ho2 hg2
          go_wp2
          exact ⟨⟨q2 + 1, by simp, by omega, rfl, hpu.out.same rfl (by rw [← HB.out, take_push]; rfl)⟩, by simp [intOf]; omega⟩
        · obtain rfl : q2 = L2 := by omega
          have hPP0 : q + q2 = P := by have := HL.out.1; have := HF.out.1; omega
          have hPP : q + q2 = P := by omega
          have H2 := Lib.hid (HO3.out.same (n' := P) hPP (show [] ++ (digs (m / 10 ^ k) P).take (q + q2) = [] ++ digs (m / 10 ^ k) P by rw [hPP0, List.take_of_length_le (by rw [digs_length]; exact Nat.le_refl _)]))
          clear hPP0
          rw [hPP]
          clear hPP
          clear HO3
          obtain ⟨x4, hx4⟩ := H2.out.open
          have Hx4 := Lib.hid hx4
          clear hx4
          have NHx4 := Lib.hid (show P + 1 ≤ 24 by first | omega | (have := HF.out; omega) | (have := HF.out; have := HL.out; omega))
          go_wp2_with (at_builtin; refine wpList_append_fits _ rfl _ _ 49 rfl w0.heap.size 5 i0 1 Tryd.underlying49 hi0 hi1 D _ 24 _ rfl (Hx4.out.2.alloc _) ⟨_, 0, none⟩ 1 1 [.int .u8 46] rfl rfl (one_cell _ _ _) (u8_one _) (NHx4.out) ?_)
          intro w3 ho3 hg3
          have H3 := Lib.hid (H2.out.add Hx4.out.1 46 rfl ho3 hg3)
          clear ho3 hg3
          go_wp2_with fail
          go_loopw [0, 240] (fun d i wr => ∃ a : Nat, i = .int .i64 a ∧ a ≤ LZ ∧ d = .slice (some ⟨D, 0, none⟩) (P + 1 + a) 24 ∧ Out D B m (P + 1 + a) ([] ++ digs (m / 10 ^ k) P ++ [46] ++ (digs m k).take a) w0 wr) (fun _ i _ => LZ - (intOf i).toNat)
          case atStart => exact ⟨0, rfl, Nat.zero_le _, rfl, H3.out.same rfl (by simp)⟩
          case round =>
            obtain ⟨a, rfl, ha, rfl, hout⟩ := hrel
            have HO4 := Lib.hid hout
            clear hout
            rcases Nat.lt_or_ge a LZ with hlt4 | hge4
            · exfalso; omega
            · obtain rfl : a = LZ := by omega
              go_wp2_with fail
              go_loopw [0, 30, 247] (fun d _ i wr => ∃ b : Nat, i = .int .i64 b ∧ b ≤ MID ∧ d = .slice (some ⟨D, 0, none⟩) (P + 1 + a + b) 24 ∧ Out D B m (P + 1 + a + b) ([] ++ digs (m / 10 ^ k) P ++ [46] ++ (digs m k).take (a + b)) w0 wr) (fun _ _ i _ => MID - (intOf i).toNat)
              case atStart => exact ⟨0, rfl, Nat.zero_le _, rfl, HO4.out⟩
              case round =>
                obtain ⟨b, rfl, hb, rfl, hout⟩ := hrel
                have HO5 := Lib.hid hout
                clear hout
                rcases Nat.lt_or_ge b MID with hlt5 | hge5
                · have hak : a + b < k := by have := HF.out.2.1; omega
                  have hoN : OFF + b < Lib.nDigits m := by have := HF.out; omega
                  obtain ⟨c, hcb⟩ : ∃ c, (digs m k)[a + b]'(by rw [digs_length]; exact hak) = c := ⟨_, rfl⟩
                  have hc := HO5.out.dig (OFF + b) hoN
                  rw [digit_byte, ← out_digit HP.out b hak, hcb] at hc
                  unfold byteV at hc
                  have HB := Lib.hid hcb
                  clear hcb
                  have hqI : (b : Int) < MID := by omega
                  obtain ⟨x6, hx6⟩ := HO5.out.open
                  have Hx6 := Lib.hid hx6
                  clear hx6
                  have NHx6 := Lib.hid (show P + 1 + a + b + 1 ≤ 24 by first | omega | (have := HF.out; omega) | (have := HF.out; have := HL.out; omega))
                  go_wp2_with (at_builtin; refine wpList_append_fits _ rfl _ _ 49 rfl w0.heap.size 5 i0 1 Tryd.underlying49 hi0 hi1 D _ 24 _ rfl (Hx6.out.2.alloc _) ⟨_, 0, none⟩ 1 1 [.int .u8 (c.toNat : Int)] rfl rfl (one_cell _ _ _) (u8_one _) (NHx6.out) ?_)
                  intro w5 ho5 hg5
                  have hpu := Lib.hid (HO5.out.add Hx6.out.1 c rfl ho5 hg5)
                  clear ho5 hg5
                  go_wp2
                  exact ⟨⟨b + 1, by simp, by omega, rfl, hpu.out.same rfl (by rw [← HB.out, take_push]; rfl)⟩, by simp [intOf]; omega⟩
                · obtain rfl : b = MID := by omega
                  go_wp2_with fail
                  go_loopw [0, 261] (fun d i wr => ∃ c : Nat, i = .int .i64 c ∧ c ≤ TZ ∧ d = .slice (some ⟨D, 0, none⟩) (P + 1 + a + b + c) 24 ∧ Out D B m (P + 1 + a + b + c) ([] ++ digs (m / 10 ^ k) P ++ [46] ++ (digs m k).take (a + (b + c))) w0 wr) (fun _ i _ => TZ - (intOf i).toNat)
                  case atStart => exact ⟨0, rfl, Nat.zero_le _, rfl, HO5.out⟩
                  case round =>
                    obtain ⟨c, rfl, hc, rfl, hout⟩ := hrel
                    have HO6 := Lib.hid hout
                    clear hout
                    rcases Nat.lt_or_ge c TZ with hlt6 | hge6
                    · have hak : a + (b + c) < k := by have := HF.out.2.1; omega
                      have hzr := out_tail HP.out HZ.out c hlt6 hak
                      have HB := Lib.hid hzr
                      clear hzr
                      have hqI : (c : Int) < TZ := by omega
                      obtain ⟨x7, hx7⟩ := HO6.out.open
                      have Hx7 := Lib.hid hx7
                      clear hx7
                      have NHx7 := Lib.hid (show P + 1 + a + b + c + 1 ≤ 24 by first | omega | (have := HF.out; omega) | (have := HF.out; have := HL.out; omega))
                      go_wp2_with (at_builtin; refine wpList_append_fits _ rfl _ _ 49 rfl w0.heap.size 5 i0 1 Tryd.underlying49 hi0 hi1 D _ 24 _ rfl (Hx7.out.2.alloc _) ⟨_, 0, none⟩ 1 1 [.int .u8 48] rfl rfl (one_cell _ _ _) (u8_one _) (NHx7.out) ?_)
                      intro w6 ho6 hg6
                      have hpu := Lib.hid (HO6.out.add Hx7.out.1 48 rfl ho6 hg6)
                      clear ho6 hg6
                      go_wp2
                      exact ⟨⟨c + 1, by simp, by omega, rfl, hpu.out.same rfl (by rw [← HB.out, take_push]; rfl)⟩, by simp [intOf]; omega⟩
                    · obtain rfl : c = TZ := by omega
                      have hkk : a + (b + c) = k := by have := HF.out.2.1; omega
                      have hfin : [] ++ digs (m / 10 ^ k) P ++ [46] ++ (digs m k).take (a + (b + c)) = fixText false m k := by
                        rw [hkk, List.take_of_length_le (by rw [digs_length]; exact Nat.le_refl _)]
                        unfold fixText
                        rw [if_pos (show k < Lib.nDigits m by have h1 := HF.out.2.2.1; have h2 := HL.out.2; omega), ← HF.out.2.2.1]; rfl
                      have H9 := Lib.hid (HO6.out.same (n' := P + 1 + a + b + c) rfl hfin)
                      clear hfin
                      go_wp2
                      go_ret
                      exact ⟨_, rfl, H9.out⟩

set_option maxRecDepth 100000 in
set_option maxHeartbeats 4000000 in
theorem efg_pos_out (m k nz D B : Nat) (dp : Int) (w0 w : World) (P LZ OFF MID TZ M1 : Nat) (h : Out D B m 0 [] w0 w) (hk : 0 < k) (hk4 : k ≤ 4) (hN : Lib.nDigits m ≤ 13) (hz : Kept m nz) (hp : Plan (Lib.nDigits m) k nz dp P LZ OFF MID TZ M1) (hdp : dp = (Lib.nDigits m : Int) - k) (hd : ¬ 0 < dp) :
    Calls Tryd.prog 45 #[.slice (some ⟨D, 0, none⟩) 0 24, .bool false, .slice (some ⟨B, 0, none⟩) 24 24, .int .i64 dp, .int .i64 nz, .int .i64 k, .int .u8 102, .bool false] w fun e w' => ∃ n, e = .returned (.slice (some ⟨D, 0, none⟩) n 24) ∧ Out D B m n (fixText false m k) w0 w' := by
  obtain ⟨i0, hi0, hi1⟩ := byte_info
  have HO := Lib.hid h
  have HZ := Lib.hid hz
  have HP := Lib.hid hp
  have hdb1 : -4 ≤ dp := by omega
  have hdb2 : dp ≤ 13 := by omega
  have hnz := hz.le
  have q1 := hp.m1le
  have q2 := hp.sum
  have q3 := hp.whole
  have q4 := hp.place
  have q5 := hp.few
  have HF := Lib.hid (And.intro q1 (And.intro q2 (And.intro q3 (And.intro q4 (And.intro q5 (And.intro hnz hN))))))
  have hM13 : M1 ≤ 13 := by omega
  have hLZ : min (k : Int) (max 0 (-dp)) = LZ := hp.lz
  have hLZb : LZ ≤ 4 := by omega
  have hOFF : dp + (LZ : Int) = OFF := hp.off
  have hOFFb : OFF ≤ 13 := by omega
  have hMID : min ((k : Int) - LZ) (max 0 ((nz : Int) - OFF)) = MID := hp.mid
  have hMIDb : MID ≤ 4 := by omega
  have hTZ : max 0 ((k : Int) - LZ - MID) = TZ := hp.tz
  have hTZb : TZ ≤ 4 := by omega
  have hnzb : nz ≤ 13 := by omega
  have hkI : (0 : Int) < k := by omega
  have hw0 : wrap64 (-dp) = -dp := by unfold wrap64; omega
  have hw1 : wrap64 (dp + (LZ : Int)) = OFF := by unfold wrap64; omega
  have hw2 : wrap64 ((k : Int) - LZ) = (k : Int) - LZ := by unfold wrap64; omega
  have hw3 : wrap64 ((nz : Int) - OFF) = (nz : Int) - OFF := by unfold wrap64; omega
  have hw4 : wrap64 ((k : Int) - LZ - MID) = (k : Int) - LZ - MID := by unfold wrap64; omega
  have hPb : P ≤ 13 := by omega
  have hP0 : P = 0 := hp.dp0 hd
  have HL := Lib.hid hP0
  clear hP0
  clear h hz hp hdp q1 q2 q3 q4 q5 hN hnz
  go_enter Tryd.func45, Tryd.ntmps45
  have H1 := HO
  obtain ⟨x2, hx2⟩ := H1.out.open
  have Hx2 := Lib.hid hx2
  clear hx2
  have NHx2 := Lib.hid (show 0 + 1 ≤ 24 by first | omega | (have := HF.out; omega) | (have := HF.out; have := HL.out; omega))
  go_wp2_with (at_builtin; refine wpList_append_fits _ rfl _ _ 49 rfl w0.heap.size 5 i0 1 Tryd.underlying49 hi0 hi1 D _ 24 _ rfl (Hx2.out.2.alloc _) ⟨_, 0, none⟩ 1 1 [.int .u8 48] rfl rfl (one_cell _ _ _) (u8_one _) (NHx2.out) ?_)
  intro w2 ho2 hg2
  have H2 := Lib.hid (H1.out.add Hx2.out.1 48 rfl ho2 hg2)
  clear ho2 hg2
  obtain ⟨x4, hx4⟩ := H2.out.open
  have Hx4 := Lib.hid hx4
  clear hx4
  have NHx4 := Lib.hid (show 1 + 1 ≤ 24 by first | omega | (have := HF.out; omega) | (have := HF.out; have := HL.out; omega))
  go_wp2_with (at_builtin; refine wpList_append_fits _ rfl _ _ 49 rfl w0.heap.size 5 i0 1 Tryd.underlying49 hi0 hi1 D _ 24 _ rfl (Hx4.out.2.alloc _) ⟨_, 0, none⟩ 1 1 [.int .u8 46] rfl rfl (one_cell _ _ _) (u8_one _) (NHx4.out) ?_)
  intro w3 ho3 hg3
  have H3 := Lib.hid (H2.out.add Hx4.out.1 46 rfl ho3 hg3)
  clear ho3 hg3
  go_wp2_with fail
  go_loopw [0, 240] (fun d i wr => ∃ a : Nat, i = .int .i64 a ∧ a ≤ LZ ∧ d = .slice (some ⟨D, 0, none⟩) (2 + a) 24 ∧ Out D B m (2 + a) ([] ++ [48] ++ [46] ++ (digs m k).take a) w0 wr) (fun _ i _ => LZ - (intOf i).toNat)
  case atStart => exact ⟨0, rfl, Nat.zero_le _, rfl, H3.out.same rfl (by simp)⟩
  case round =>
    obtain ⟨a, rfl, ha, rfl, hout⟩ := hrel
    have HO4 := Lib.hid hout
    clear hout
    rcases Nat.lt_or_ge a LZ with hlt4 | hge4
    · have hak : a < k := by have := HF.out.2.1; omega
      have hzr := out_lead HP.out a hlt4 hak
      have HB := Lib.hid hzr
      clear hzr
      have hqI : (a : Int) < LZ := by omega
      obtain ⟨x5, hx5⟩ := HO4.out.open
      have Hx5 := Lib.hid hx5
      clear hx5
      have NHx5 := Lib.hid (show 2 + a + 1 ≤ 24 by first | omega | (have := HF.out; omega) | (have := HF.out; have := HL.out; omega))
      go_wp2_with (at_builtin; refine wpList_append_fits _ rfl _ _ 49 rfl w0.heap.size 5 i0 1 Tryd.underlying49 hi0 hi1 D _ 24 _ rfl (Hx5.out.2.alloc _) ⟨_, 0, none⟩ 1 1 [.int .u8 48] rfl rfl (one_cell _ _ _) (u8_one _) (NHx5.out) ?_)
      intro w4 ho4 hg4
      have hpu := Lib.hid (HO4.out.add Hx5.out.1 48 rfl ho4 hg4)
      clear ho4 hg4
      go_wp2
      exact ⟨⟨a + 1, by simp, by omega, rfl, hpu.out.same rfl (by rw [← HB.out, take_push])⟩, by simp [intOf]; omega⟩
    · obtain rfl : a = LZ := by omega
      go_wp2_with fail
      go_loopw [0, 30, 247] (fun d _ i wr => ∃ b : Nat, i = .int .i64 b ∧ b ≤ MID ∧ d = .slice (some ⟨D, 0, none⟩) (2 + a + b) 24 ∧ Out D B m (2 + a + b) ([] ++ [48] ++ [46] ++ (digs m k).take (a + b)) w0 wr) (fun _ _ i _ => MID - (intOf i).toNat)
      case atStart => exact ⟨0, rfl, Nat.zero_le _, rfl, HO4.out⟩
      case round =>
        obtain ⟨b, rfl, hb, rfl, hout⟩ := hrel
        have HO5 := Lib.hid hout
        clear hout
        rcases Nat.lt_or_ge b MID with hlt5 | hge5
        · have hak : a + b < k := by have := HF.out.2.1; omega
          have hoN : OFF + b < Lib.nDigits m := by have := HF.out; omega
          obtain ⟨c, hcb⟩ : ∃ c, (digs m k)[a + b]'(by rw [digs_length]; exact hak) = c := ⟨_, rfl⟩
          have hc := HO5.out.dig (OFF + b) hoN
          rw [digit_byte, ← out_digit HP.out b hak, hcb] at hc
          unfold byteV at hc
          have HB := Lib.hid hcb
          clear hcb
          have hqI : (b : Int) < MID := by omega
          obtain ⟨x6, hx6⟩ := HO5.out.open
          have Hx6 := Lib.hid hx6
          clear hx6
          have NHx6 := Lib.hid (show 2 + a + b + 1 ≤ 24 by first | omega | (have := HF.out; omega) | (have := HF.out; have := HL.out; omega))
          go_wp2_with (at_builtin; refine wpList_append_fits _ rfl _ _ 49 rfl w0.heap.size 5 i0 1 Tryd.underlying49 hi0 hi1 D _ 24 _ rfl (Hx6.out.2.alloc _) ⟨_, 0, none⟩ 1 1 [.int .u8 (c.toNat : Int)] rfl rfl (one_cell _ _ _) (u8_one _) (NHx6.out) ?_)
          intro w5 ho5 hg5
          have hpu := Lib.hid (HO5.out.add Hx6.out.1 c rfl ho5 hg5)
          clear ho5 hg5
          go_wp2
          exact ⟨⟨b + 1, by simp, by omega, rfl, hpu.out.same rfl (by rw [← HB.out, take_push]; rfl)⟩, by simp [intOf]; omega⟩
        · obtain rfl : b = MID := by omega
          go_wp2_with fail
          go_loopw [0, 261] (fun d i wr => ∃ c : Nat, i = .int .i64 c ∧ c ≤ TZ ∧ d = .slice (some ⟨D, 0, none⟩) (2 + a + b + c) 24 ∧ Out D B m (2 + a + b + c) ([] ++ [48] ++ [46] ++ (digs m k).take (a + (b + c))) w0 wr) (fun _ i _ => TZ - (intOf i).toNat)
          case atStart => exact ⟨0, rfl, Nat.zero_le _, rfl, HO5.out⟩
          case round =>
            obtain ⟨c, rfl, hc, rfl, hout⟩ := hrel
            have HO6 := Lib.hid hout
            clear hout
            rcases Nat.lt_or_ge c TZ with hlt6 | hge6
            · have hak : a + (b + c) < k := by have := HF.out.2.1; omega
              have hzr := out_tail HP.out HZ.out c hlt6 hak
              have HB := Lib.hid hzr
              clear hzr
              have hqI : (c : Int) < TZ := by omega
              obtain ⟨x7, hx7⟩ := HO6.out.open
              have Hx7 := Lib.hid hx7
              clear hx7
              have NHx7 := Lib.hid (show 2 + a + b + c + 1 ≤ 24 by first | omega | (have := HF.out; omega) | (have := HF.out; have := HL.out; omega))
              go_wp2_with (at_builtin; refine wpList_append_fits _ rfl _ _ 49 rfl w0.heap.size 5 i0 1 Tryd.underlying49 hi0 hi1 D _ 24 _ rfl (Hx7.out.2.alloc _) ⟨_, 0, none⟩ 1 1 [.int .u8 48] rfl rfl (one_cell _ _ _) (u8_one _) (NHx7.out) ?_)
              intro w6 ho6 hg6
              have hpu := Lib.hid (HO6.out.add Hx7.out.1 48 rfl ho6 hg6)
              clear ho6 hg6
              go_wp2
              exact ⟨⟨c + 1, by simp, by omega, rfl, hpu.out.same rfl (by rw [← HB.out, take_push]; rfl)⟩, by simp [intOf]; omega⟩
            · obtain rfl : c = TZ := by omega
              have hkk : a + (b + c) = k := by have := HF.out.2.1; omega
              have hfin : [] ++ [48] ++ [46] ++ (digs m k).take (a + (b + c)) = fixText false m k := by
                rw [hkk, List.take_of_length_le (by rw [digs_length]; exact Nat.le_refl _)]
                unfold fixText
                rw [if_neg (show ¬ k < Lib.nDigits m by have h1 := HF.out.2.2.1; have h2 := HL.out; omega)]; rfl
              have H9 := Lib.hid (HO6.out.same (n' := 2 + a + b + c) rfl hfin)
              clear hfin
              go_wp2
              go_ret
              exact ⟨_, rfl, H9.out⟩

set_option maxRecDepth 100000 in
set_option maxHeartbeats 4000000 in
theorem efg_neg_in (m k nz D B : Nat) (dp : Int) (w0 w : World) (P LZ OFF MID TZ M1 : Nat) (h : Out D B m 0 [] w0 w) (hk : 0 < k) (hk4 : k ≤ 4) (hN : Lib.nDigits m ≤ 13) (hz : Kept m nz) (hp : Plan (Lib.nDigits m) k nz dp P LZ OFF MID TZ M1) (hdp : dp = (Lib.nDigits m : Int) - k) (hd : 0 < dp) :
    Calls Tryd.prog 45 #[.slice (some ⟨D, 0, none⟩) 0 24, .bool true, .slice (some ⟨B, 0, none⟩) 24 24, .int .i64 dp, .int .i64 nz, .int .i64 k, .int .u8 102, .bool false] w fun e w' => ∃ n, e = .returned (.slice (some ⟨D, 0, none⟩) n 24) ∧ Out D B m n (fixText true m k) w0 w' := by
  obtain ⟨i0, hi0, hi1⟩ := byte_info
  have HO := Lib.hid h
  have HZ := Lib.hid hz
  have HP := Lib.hid hp
  have hdb1 : -4 ≤ dp := by omega
  have hdb2 : dp ≤ 13 := by omega
  have hnz := hz.le
  have q1 := hp.m1le
  have q2 := hp.sum
  have q3 := hp.whole
  have q4 := hp.place
  have q5 := hp.few
  have HF := Lib.hid (And.intro q1 (And.intro q2 (And.intro q3 (And.intro q4 (And.intro q5 (And.intro hnz hN))))))
  have hM13 : M1 ≤ 13 := by omega
  have hLZ : min (k : Int) (max 0 (-dp)) = LZ := hp.lz
  have hLZb : LZ ≤ 4 := by omega
  have hOFF : dp + (LZ : Int) = OFF := hp.off
  have hOFFb : OFF ≤ 13 := by omega
  have hMID : min ((k : Int) - LZ) (max 0 ((nz : Int) - OFF)) = MID := hp.mid
  have hMIDb : MID ≤ 4 := by omega
  have hTZ : max 0 ((k : Int) - LZ - MID) = TZ := hp.tz
  have hTZb : TZ ≤ 4 := by omega
  have hnzb : nz ≤ 13 := by omega
  have hkI : (0 : Int) < k := by omega
  have hw0 : wrap64 (-dp) = -dp := by unfold wrap64; omega
  have hw1 : wrap64 (dp + (LZ : Int)) = OFF := by unfold wrap64; omega
  have hw2 : wrap64 ((k : Int) - LZ) = (k : Int) - LZ := by unfold wrap64; omega
  have hw3 : wrap64 ((nz : Int) - OFF) = (nz : Int) - OFF := by unfold wrap64; omega
  have hw4 : wrap64 ((k : Int) - LZ - MID) = (k : Int) - LZ - MID := by unfold wrap64; omega
  have hPb : P ≤ 13 := by omega
  have hM1 : min (nz : Int) dp = M1 := hp.m1 hd
  have hdP : dp = P := hp.dpP hd
  have hw5 : wrap64 (dp - (M1 : Int)) = ((P - M1 : Nat) : Int) := by unfold wrap64; omega
  have hw6 : dp - (M1 : Int) = ((P - M1 : Nat) : Int) := by omega
  obtain ⟨L2, hL2⟩ : ∃ L2, P - M1 = L2 := ⟨_, rfl⟩
  rw [hL2] at hw5 hw6
  have hL2b : L2 ≤ 13 := by omega
  have HL := Lib.hid (And.intro hL2 hdP)
  clear hL2 hdP
  clear h hz hp hdp q1 q2 q3 q4 q5 hN hnz
  go_enter Tryd.func45, Tryd.ntmps45
  obtain ⟨x1, hx1⟩ := HO.out.open
  have Hx1 := Lib.hid hx1
  clear hx1
  have NHx1 := Lib.hid (show 0 + 1 ≤ 24 by first | omega | (have := HF.out; omega) | (have := HF.out; have := HL.out; omega))
  go_wp2_with (at_builtin; refine wpList_append_fits _ rfl _ _ 49 rfl w0.heap.size 5 i0 1 Tryd.underlying49 hi0 hi1 D _ 24 _ rfl (Hx1.out.2.alloc _) ⟨_, 0, none⟩ 1 1 [.int .u8 45] rfl rfl (one_cell _ _ _) (u8_one _) (NHx1.out) ?_)
  intro w1 ho1 hg1
  have H1 := Lib.hid (HO.out.add Hx1.out.1 45 rfl ho1 hg1)
  clear ho1 hg1
  go_wp2_with fail
  go_loopw [0, 25, 191] (fun d _ i wr => ∃ q : Nat, i = .int .i64 q ∧ q ≤ M1 ∧ d = .slice (some ⟨D, 0, none⟩) (1 + q) 24 ∧ Out D B m (1 + q) ([45] ++ (digs (m / 10 ^ k) P).take q) w0 wr) (fun _ _ i _ => M1 - (intOf i).toNat)
  case atStart => exact ⟨0, rfl, Nat.zero_le _, rfl, H1.out.same rfl (by simp)⟩
  case round =>
    obtain ⟨q, rfl, hq, rfl, hout⟩ := hrel
    have HO2 := Lib.hid hout
    clear hout
    rcases Nat.lt_or_ge q M1 with hlt | hge
    · have hqP : q < P := by have := HF.out.1; omega
      have hqN : q < Lib.nDigits m := by have := HF.out; omega
      obtain ⟨b, hb⟩ : ∃ b, (digs (m / 10 ^ k) P)[q]'(by rw [digs_length]; exact hqP) = b := ⟨_, rfl⟩
      have hc := HO2.out.dig q hqN
      rw [digit_byte, ← in_digit HP.out q hqP, hb] at hc
      unfold byteV at hc
      have HB := Lib.hid hb
      clear hb
      have hqI : (q : Int) < M1 := by omega
      obtain ⟨x2, hx2⟩ := HO2.out.open
      have Hx2 := Lib.hid hx2
      clear hx2
      have NHx2 := Lib.hid (show 1 + q + 1 ≤ 24 by first | omega | (have := HF.out; omega) | (have := HF.out; have := HL.out; omega))
      go_wp2_with (at_builtin; refine wpList_append_fits _ rfl _ _ 49 rfl w0.heap.size 5 i0 1 Tryd.underlying49 hi0 hi1 D _ 24 _ rfl (Hx2.out.2.alloc _) ⟨_, 0, none⟩ 1 1 [.int .u8 (b.toNat : Int)] rfl rfl (one_cell _ _ _) (u8_one _) (NHx2.out) ?_)
      intro w2 ho2 hg2
      have hpu := Lib.hid (HO2.out.add Hx2.out.1 b rfl ho2 hg2)
      clear ho2 hg2
      go_wp2
      exact ⟨⟨q + 1, by simp, by omega, rfl, hpu.out.same rfl (by rw [← HB.out, take_push])⟩, by simp [intOf]; omega⟩
    · obtain rfl : q = M1 := by omega
      go_wp2_with fail
      go_loopw [0, 203] (fun d i wr => ∃ q2 : Nat, i = .int .i64 q2 ∧ q2 ≤ L2 ∧ d = .slice (some ⟨D, 0, none⟩) (1 + q + q2) 24 ∧ Out D B m (1 + q + q2) ([45] ++ (digs (m / 10 ^ k) P).take (q + q2)) w0 wr) (fun _ i _ => L2 - (intOf i).toNat)
      case atStart => exact ⟨0, rfl, Nat.zero_le _, rfl, HO2.out⟩
      case round =>
        obtain ⟨q2, rfl, hq2, rfl, hout⟩ := hrel
        have HO3 := Lib.hid hout
        clear hout
        rcases Nat.lt_or_ge q2 L2 with hlt2 | hge2
        · have hqP : q + q2 < P := by have := HL.out.1; omega
          have hzr := in_zero HP.out HZ.out (q + q2) hqP (by omega)
          have HB := Lib.hid hzr
          clear hzr
          have hqI : (q2 : Int) < L2 := by omega
          obtain ⟨x3, hx3⟩ := HO3.out.open
          have Hx3 := Lib.hid hx3
          clear hx3
          have NHx3 := Lib.hid (show 1 + q + q2 + 1 ≤ 24 by first | omega | (have := HF.out; omega) | (have := HF.out; have := HL.out; omega))
          go_wp2_with (at_builtin; refine wpList_append_fits _ rfl _ _ 49 rfl w0.heap.size 5 i0 1 Tryd.underlying49 hi0 hi1 D _ 24 _ rfl (Hx3.out.2.alloc _) ⟨_, 0, none⟩ 1 1 [.int .u8 48] rfl rfl (one_cell _ _ _) (u8_one _) (NHx3.out) ?_)
          intro w2 ho2 hg2
          have hpu := Lib.hid (HO3.out.add Hx3.out.1 48 rfl ho2 hg2)
          clear ho2 hg2
          go_wp2
          exact ⟨⟨q2 + 1, by simp, by omega, rfl, hpu.out.same rfl (by rw [← HB.out, take_push]; rfl)⟩, by simp [intOf]; omega⟩
        · obtain rfl : q2 = L2 := by omega
          have hPP0 : q + q2 = P := by have := HL.out.1; have := HF.out.1; omega
          have hPP : 1 + q + q2 = 1 + P := by omega
          have H2 := Lib.hid (HO3.out.same (n' := 1 + P) hPP (show [45] ++ (digs (m / 10 ^ k) P).take (q + q2) = [45] ++ digs (m / 10 ^ k) P by rw [hPP0, List.take_of_length_le (by rw [digs_length]; exact Nat.le_refl _)]))
          clear hPP0
          rw [hPP]
          clear hPP
          clear HO3
          obtain ⟨x4, hx4⟩ := H2.out.open
          have Hx4 := Lib.hid hx4
          clear hx4
          have NHx4 := Lib.hid (show 1 + P + 1 ≤ 24 by first | omega | (have := HF.out; omega) | (have := HF.out; have := HL.out; omega))
          go_wp2_with (at_builtin; refine wpList_append_fits _ rfl _ _ 49 rfl w0.heap.size 5 i0 1 Tryd.underlying49 hi0 hi1 D _ 24 _ rfl (Hx4.out.2.alloc _) ⟨_, 0, none⟩ 1 1 [.int .u8 46] rfl rfl (one_cell _ _ _) (u8_one _) (NHx4.out) ?_)
          intro w3 ho3 hg3
          have H3 := Lib.hid (H2.out.add Hx4.out.1 46 rfl ho3 hg3)
          clear ho3 hg3
          go_wp2_with fail
          go_loopw [0, 240] (fun d i wr => ∃ a : Nat, i = .int .i64 a ∧ a ≤ LZ ∧ d = .slice (some ⟨D, 0, none⟩) (1 + P + 1 + a) 24 ∧ Out D B m (1 + P + 1 + a) ([45] ++ digs (m / 10 ^ k) P ++ [46] ++ (digs m k).take a) w0 wr) (fun _ i _ => LZ - (intOf i).toNat)
          case atStart => exact ⟨0, rfl, Nat.zero_le _, rfl, H3.out.same rfl (by simp)⟩
          case round =>
            obtain ⟨a, rfl, ha, rfl, hout⟩ := hrel
            have HO4 := Lib.hid hout
            clear hout
            rcases Nat.lt_or_ge a LZ with hlt4 | hge4
            · exfalso; omega
            · obtain rfl : a = LZ := by omega
              go_wp2_with fail
              go_loopw [0, 30, 247] (fun d _ i wr => ∃ b : Nat, i = .int .i64 b ∧ b ≤ MID ∧ d = .slice (some ⟨D, 0, none⟩) (1 + P + 1 + a + b) 24 ∧ Out D B m (1 + P + 1 + a + b) ([45] ++ digs (m / 10 ^ k) P ++ [46] ++ (digs m k).take (a + b)) w0 wr) (fun _ _ i _ => MID - (intOf i).toNat)
              case atStart => exact ⟨0, rfl, Nat.zero_le _, rfl, HO4.out⟩
              case round =>
                obtain ⟨b, rfl, hb, rfl, hout⟩ := hrel
                have HO5 := Lib.hid hout
                clear hout
                rcases Nat.lt_or_ge b MID with hlt5 | hge5
                · have hak : a + b < k := by have := HF.out.2.1; omega
                  have hoN : OFF + b < Lib.nDigits m := by have := HF.out; omega
                  obtain ⟨c, hcb⟩ : ∃ c, (digs m k)[a + b]'(by rw [digs_length]; exact hak) = c := ⟨_, rfl⟩
                  have hc := HO5.out.dig (OFF + b) hoN
                  rw [digit_byte, ← out_digit HP.out b hak, hcb] at hc
                  unfold byteV at hc
                  have HB := Lib.hid hcb
                  clear hcb
                  have hqI : (b : Int) < MID := by omega
                  obtain ⟨x6, hx6⟩ := HO5.out.open
                  have Hx6 := Lib.hid hx6
                  clear hx6
                  have NHx6 := Lib.hid (show 1 + P + 1 + a + b + 1 ≤ 24 by first | omega | (have := HF.out; omega) | (have := HF.out; have := HL.out; omega))
                  go_wp2_with (at_builtin; refine wpList_append_fits _ rfl _ _ 49 rfl w0.heap.size 5 i0 1 Tryd.underlying49 hi0 hi1 D _ 24 _ rfl (Hx6.out.2.alloc _) ⟨_, 0, none⟩ 1 1 [.int .u8 (c.toNat : Int)] rfl rfl (one_cell _ _ _) (u8_one _) (NHx6.out) ?_)
                  intro w5 ho5 hg5
                  have hpu := Lib.hid (HO5.out.add Hx6.out.1 c rfl ho5 hg5)
                  clear ho5 hg5
                  go_wp2
                  exact ⟨⟨b + 1, by simp, by omega, rfl, hpu.out.same rfl (by rw [← HB.out, take_push]; rfl)⟩, by simp [intOf]; omega⟩
                · obtain rfl : b = MID := by omega
                  go_wp2_with fail
                  go_loopw [0, 261] (fun d i wr => ∃ c : Nat, i = .int .i64 c ∧ c ≤ TZ ∧ d = .slice (some ⟨D, 0, none⟩) (1 + P + 1 + a + b + c) 24 ∧ Out D B m (1 + P + 1 + a + b + c) ([45] ++ digs (m / 10 ^ k) P ++ [46] ++ (digs m k).take (a + (b + c))) w0 wr) (fun _ i _ => TZ - (intOf i).toNat)
                  case atStart => exact ⟨0, rfl, Nat.zero_le _, rfl, HO5.out⟩
                  case round =>
                    obtain ⟨c, rfl, hc, rfl, hout⟩ := hrel
                    have HO6 := Lib.hid hout
                    clear hout
                    rcases Nat.lt_or_ge c TZ with hlt6 | hge6
                    · have hak : a + (b + c) < k := by have := HF.out.2.1; omega
                      have hzr := out_tail HP.out HZ.out c hlt6 hak
                      have HB := Lib.hid hzr
                      clear hzr
                      have hqI : (c : Int) < TZ := by omega
                      obtain ⟨x7, hx7⟩ := HO6.out.open
                      have Hx7 := Lib.hid hx7
                      clear hx7
                      have NHx7 := Lib.hid (show 1 + P + 1 + a + b + c + 1 ≤ 24 by first | omega | (have := HF.out; omega) | (have := HF.out; have := HL.out; omega))
                      go_wp2_with (at_builtin; refine wpList_append_fits _ rfl _ _ 49 rfl w0.heap.size 5 i0 1 Tryd.underlying49 hi0 hi1 D _ 24 _ rfl (Hx7.out.2.alloc _) ⟨_, 0, none⟩ 1 1 [.int .u8 48] rfl rfl (one_cell _ _ _) (u8_one _) (NHx7.out) ?_)
                      intro w6 ho6 hg6
                      have hpu := Lib.hid (HO6.out.add Hx7.out.1 48 rfl ho6 hg6)
                      clear ho6 hg6
                      go_wp2
                      exact ⟨⟨c + 1, by simp, by omega, rfl, hpu.out.same rfl (by rw [← HB.out, take_push]; rfl)⟩, by simp [intOf]; omega⟩
                    · obtain rfl : c = TZ := by omega
                      have hkk : a + (b + c) = k := by have := HF.out.2.1; omega
                      have hfin : [45] ++ digs (m / 10 ^ k) P ++ [46] ++ (digs m k).take (a + (b + c)) = fixText true m k := by
                        rw [hkk, List.take_of_length_le (by rw [digs_length]; exact Nat.le_refl _)]
                        unfold fixText
                        rw [if_pos (show k < Lib.nDigits m by have h1 := HF.out.2.2.1; have h2 := HL.out.2; omega), ← HF.out.2.2.1]; rfl
                      have H9 := Lib.hid (HO6.out.same (n' := 1 + P + 1 + a + b + c) rfl hfin)
                      clear hfin
                      go_wp2
                      go_ret
                      exact ⟨_, rfl, H9.out⟩

set_option maxRecDepth 100000 in
set_option maxHeartbeats 4000000 in
theorem efg_neg_out (m k nz D B : Nat) (dp : Int) (w0 w : World) (P LZ OFF MID TZ M1 : Nat) (h : Out D B m 0 [] w0 w) (hk : 0 < k) (hk4 : k ≤ 4) (hN : Lib.nDigits m ≤ 13) (hz : Kept m nz) (hp : Plan (Lib.nDigits m) k nz dp P LZ OFF MID TZ M1) (hdp : dp = (Lib.nDigits m : Int) - k) (hd : ¬ 0 < dp) :
    Calls Tryd.prog 45 #[.slice (some ⟨D, 0, none⟩) 0 24, .bool true, .slice (some ⟨B, 0, none⟩) 24 24, .int .i64 dp, .int .i64 nz, .int .i64 k, .int .u8 102, .bool false] w fun e w' => ∃ n, e = .returned (.slice (some ⟨D, 0, none⟩) n 24) ∧ Out D B m n (fixText true m k) w0 w' := by
  obtain ⟨i0, hi0, hi1⟩ := byte_info
  have HO := Lib.hid h
  have HZ := Lib.hid hz
  have HP := Lib.hid hp
  have hdb1 : -4 ≤ dp := by omega
  have hdb2 : dp ≤ 13 := by omega
  have hnz := hz.le
  have q1 := hp.m1le
  have q2 := hp.sum
  have q3 := hp.whole
  have q4 := hp.place
  have q5 := hp.few
  have HF := Lib.hid (And.intro q1 (And.intro q2 (And.intro q3 (And.intro q4 (And.intro q5 (And.intro hnz hN))))))
  have hM13 : M1 ≤ 13 := by omega
  have hLZ : min (k : Int) (max 0 (-dp)) = LZ := hp.lz
  have hLZb : LZ ≤ 4 := by omega
  have hOFF : dp + (LZ : Int) = OFF := hp.off
  have hOFFb : OFF ≤ 13 := by omega
  have hMID : min ((k : Int) - LZ) (max 0 ((nz : Int) - OFF)) = MID := hp.mid
  have hMIDb : MID ≤ 4 := by omega
  have hTZ : max 0 ((k : Int) - LZ - MID) = TZ := hp.tz
  have hTZb : TZ ≤ 4 := by omega
  have hnzb : nz ≤ 13 := by omega
  have hkI : (0 : Int) < k := by omega
  have hw0 : wrap64 (-dp) = -dp := by unfold wrap64; omega
  have hw1 : wrap64 (dp + (LZ : Int)) = OFF := by unfold wrap64; omega
  have hw2 : wrap64 ((k : Int) - LZ) = (k : Int) - LZ := by unfold wrap64; omega
  have hw3 : wrap64 ((nz : Int) - OFF) = (nz : Int) - OFF := by unfold wrap64; omega
  have hw4 : wrap64 ((k : Int) - LZ - MID) = (k : Int) - LZ - MID := by unfold wrap64; omega
  have hPb : P ≤ 13 := by omega
  have hP0 : P = 0 := hp.dp0 hd
  have HL := Lib.hid hP0
  clear hP0
  clear h hz hp hdp q1 q2 q3 q4 q5 hN hnz
  go_enter Tryd.func45, Tryd.ntmps45
  obtain ⟨x1, hx1⟩ := HO.out.open
  have Hx1 := Lib.hid hx1
  clear hx1
  have NHx1 := Lib.hid (show 0 + 1 ≤ 24 by first | omega | (have := HF.out; omega) | (have := HF.out; have := HL.out; omega))
  go_wp2_with (at_builtin; refine wpList_append_fits _ rfl _ _ 49 rfl w0.heap.size 5 i0 1 Tryd.underlying49 hi0 hi1 D _ 24 _ rfl (Hx1.out.2.alloc _) ⟨_, 0, none⟩ 1 1 [.int .u8 45] rfl rfl (one_cell _ _ _) (u8_one _) (NHx1.out) ?_)
  intro w1 ho1 hg1
  have H1 := Lib.hid (HO.out.add Hx1.out.1 45 rfl ho1 hg1)
  clear ho1 hg1
  obtain ⟨x2, hx2⟩ := H1.out.open
  have Hx2 := Lib.hid hx2
  clear hx2
  have NHx2 := Lib.hid (show 1 + 1 ≤ 24 by first | omega | (have := HF.out; omega) | (have := HF.out; have := HL.out; omega))
  go_wp2_with (at_builtin; refine wpList_append_fits _ rfl _ _ 49 rfl w0.heap.size 5 i0 1 Tryd.underlying49 hi0 hi1 D _ 24 _ rfl (Hx2.out.2.alloc _) ⟨_, 0, none⟩ 1 1 [.int .u8 48] rfl rfl (one_cell _ _ _) (u8_one _) (NHx2.out) ?_)
  intro w2 ho2 hg2
  have H2 := Lib.hid (H1.out.add Hx2.out.1 48 rfl ho2 hg2)
  clear ho2 hg2
  obtain ⟨x4, hx4⟩ := H2.out.open
  have Hx4 := Lib.hid hx4
  clear hx4
  have NHx4 := Lib.hid (show 2 + 1 ≤ 24 by first | omega | (have := HF.out; omega) | (have := HF.out; have := HL.out; omega))
  go_wp2_with (at_builtin; refine wpList_append_fits _ rfl _ _ 49 rfl w0.heap.size 5 i0 1 Tryd.underlying49 hi0 hi1 D _ 24 _ rfl (Hx4.out.2.alloc _) ⟨_, 0, none⟩ 1 1 [.int .u8 46] rfl rfl (one_cell _ _ _) (u8_one _) (NHx4.out) ?_)
  intro w3 ho3 hg3
  have H3 := Lib.hid (H2.out.add Hx4.out.1 46 rfl ho3 hg3)
  clear ho3 hg3
  go_wp2_with fail
  go_loopw [0, 240] (fun d i wr => ∃ a : Nat, i = .int .i64 a ∧ a ≤ LZ ∧ d = .slice (some ⟨D, 0, none⟩) (3 + a) 24 ∧ Out D B m (3 + a) ([45] ++ [48] ++ [46] ++ (digs m k).take a) w0 wr) (fun _ i _ => LZ - (intOf i).toNat)
  case atStart => exact ⟨0, rfl, Nat.zero_le _, rfl, H3.out.same rfl (by simp)⟩
  case round =>
    obtain ⟨a, rfl, ha, rfl, hout⟩ := hrel
    have HO4 := Lib.hid hout
    clear hout
    rcases Nat.lt_or_ge a LZ with hlt4 | hge4
    · have hak : a < k := by have := HF.out.2.1; omega
      have hzr := out_lead HP.out a hlt4 hak
      have HB := Lib.hid hzr
      clear hzr
      have hqI : (a : Int) < LZ := by omega
      obtain ⟨x5, hx5⟩ := HO4.out.open
      have Hx5 := Lib.hid hx5
      clear hx5
      have NHx5 := Lib.hid (show 3 + a + 1 ≤ 24 by first | omega | (have := HF.out; omega) | (have := HF.out; have := HL.out; omega))
      go_wp2_with (at_builtin; refine wpList_append_fits _ rfl _ _ 49 rfl w0.heap.size 5 i0 1 Tryd.underlying49 hi0 hi1 D _ 24 _ rfl (Hx5.out.2.alloc _) ⟨_, 0, none⟩ 1 1 [.int .u8 48] rfl rfl (one_cell _ _ _) (u8_one _) (NHx5.out) ?_)
      intro w4 ho4 hg4
      have hpu := Lib.hid (HO4.out.add Hx5.out.1 48 rfl ho4 hg4)
      clear ho4 hg4
      go_wp2
      exact ⟨⟨a + 1, by simp, by omega, rfl, hpu.out.same rfl (by rw [← HB.out, take_push])⟩, by simp [intOf]; omega⟩
    · obtain rfl : a = LZ := by omega
      go_wp2_with fail
      go_loopw [0, 30, 247] (fun d _ i wr => ∃ b : Nat, i = .int .i64 b ∧ b ≤ MID ∧ d = .slice (some ⟨D, 0, none⟩) (3 + a + b) 24 ∧ Out D B m (3 + a + b) ([45] ++ [48] ++ [46] ++ (digs m k).take (a + b)) w0 wr) (fun _ _ i _ => MID - (intOf i).toNat)
      case atStart => exact ⟨0, rfl, Nat.zero_le _, rfl, HO4.out⟩
      case round =>
        obtain ⟨b, rfl, hb, rfl, hout⟩ := hrel
        have HO5 := Lib.hid hout
        clear hout
        rcases Nat.lt_or_ge b MID with hlt5 | hge5
        · have hak : a + b < k := by have := HF.out.2.1; omega
          have hoN : OFF + b < Lib.nDigits m := by have := HF.out; omega
          obtain ⟨c, hcb⟩ : ∃ c, (digs m k)[a + b]'(by rw [digs_length]; exact hak) = c := ⟨_, rfl⟩
          have hc := HO5.out.dig (OFF + b) hoN
          rw [digit_byte, ← out_digit HP.out b hak, hcb] at hc
          unfold byteV at hc
          have HB := Lib.hid hcb
          clear hcb
          have hqI : (b : Int) < MID := by omega
          obtain ⟨x6, hx6⟩ := HO5.out.open
          have Hx6 := Lib.hid hx6
          clear hx6
          have NHx6 := Lib.hid (show 3 + a + b + 1 ≤ 24 by first | omega | (have := HF.out; omega) | (have := HF.out; have := HL.out; omega))
          go_wp2_with (at_builtin; refine wpList_append_fits _ rfl _ _ 49 rfl w0.heap.size 5 i0 1 Tryd.underlying49 hi0 hi1 D _ 24 _ rfl (Hx6.out.2.alloc _) ⟨_, 0, none⟩ 1 1 [.int .u8 (c.toNat : Int)] rfl rfl (one_cell _ _ _) (u8_one _) (NHx6.out) ?_)
          intro w5 ho5 hg5
          have hpu := Lib.hid (HO5.out.add Hx6.out.1 c rfl ho5 hg5)
          clear ho5 hg5
          go_wp2
          exact ⟨⟨b + 1, by simp, by omega, rfl, hpu.out.same rfl (by rw [← HB.out, take_push]; rfl)⟩, by simp [intOf]; omega⟩
        · obtain rfl : b = MID := by omega
          go_wp2_with fail
          go_loopw [0, 261] (fun d i wr => ∃ c : Nat, i = .int .i64 c ∧ c ≤ TZ ∧ d = .slice (some ⟨D, 0, none⟩) (3 + a + b + c) 24 ∧ Out D B m (3 + a + b + c) ([45] ++ [48] ++ [46] ++ (digs m k).take (a + (b + c))) w0 wr) (fun _ i _ => TZ - (intOf i).toNat)
          case atStart => exact ⟨0, rfl, Nat.zero_le _, rfl, HO5.out⟩
          case round =>
            obtain ⟨c, rfl, hc, rfl, hout⟩ := hrel
            have HO6 := Lib.hid hout
            clear hout
            rcases Nat.lt_or_ge c TZ with hlt6 | hge6
            · have hak : a + (b + c) < k := by have := HF.out.2.1; omega
              have hzr := out_tail HP.out HZ.out c hlt6 hak
              have HB := Lib.hid hzr
              clear hzr
              have hqI : (c : Int) < TZ := by omega
              obtain ⟨x7, hx7⟩ := HO6.out.open
              have Hx7 := Lib.hid hx7
              clear hx7
              have NHx7 := Lib.hid (show 3 + a + b + c + 1 ≤ 24 by first | omega | (have := HF.out; omega) | (have := HF.out; have := HL.out; omega))
              go_wp2_with (at_builtin; refine wpList_append_fits _ rfl _ _ 49 rfl w0.heap.size 5 i0 1 Tryd.underlying49 hi0 hi1 D _ 24 _ rfl (Hx7.out.2.alloc _) ⟨_, 0, none⟩ 1 1 [.int .u8 48] rfl rfl (one_cell _ _ _) (u8_one _) (NHx7.out) ?_)
              intro w6 ho6 hg6
              have hpu := Lib.hid (HO6.out.add Hx7.out.1 48 rfl ho6 hg6)
              clear ho6 hg6
              go_wp2
              exact ⟨⟨c + 1, by simp, by omega, rfl, hpu.out.same rfl (by rw [← HB.out, take_push]; rfl)⟩, by simp [intOf]; omega⟩
            · obtain rfl : c = TZ := by omega
              have hkk : a + (b + c) = k := by have := HF.out.2.1; omega
              have hfin : [45] ++ [48] ++ [46] ++ (digs m k).take (a + (b + c)) = fixText true m k := by
                rw [hkk, List.take_of_length_le (by rw [digs_length]; exact Nat.le_refl _)]
                unfold fixText
                rw [if_neg (show ¬ k < Lib.nDigits m by have h1 := HF.out.2.2.1; have h2 := HL.out; omega)]; rfl
              have H9 := Lib.hid (HO6.out.same (n' := 3 + a + b + c) rfl hfin)
              clear hfin
              go_wp2
              go_ret
              exact ⟨_, rfl, H9.out⟩
end Go.Proofs.YtodlhjdogcpffaaDoor
