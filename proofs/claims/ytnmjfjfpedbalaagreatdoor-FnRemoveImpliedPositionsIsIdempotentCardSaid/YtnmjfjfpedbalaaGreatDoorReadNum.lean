/- internal/strconv.readFloat over a plain decimal text: digits, one point at most, a minus at the front at most. -/
import Derived.Test.YtnmjfjfpedbalaaGreatDoorParseNo
namespace Go.Proofs.YtnmjfjfpedbalaaGreatDoor
open Go.RowKit

/-- How far readFloat has come: mantissa, digits, the point's place, have digits been seen, has a point been seen. -/
structure RS where
  mant : Nat
  nd : Nat
  dp : Int
  sd : Bool
  dot : Bool
def RS.step (r : RS) (c : Nat) : RS :=
  if c = 46 then { r with dot := true, dp := r.nd }
  else if c = 48 ∧ r.nd = 0 then { r with sd := true, dp := r.dp - 1 }
  else { r with sd := true, nd := r.nd + 1, mant := r.mant * 10 + (c - 48) }
/-- The exponent of ten. -/
def RS.exp (r : RS) : Int := if r.mant = 0 then 0 else (if r.dot then r.dp else r.nd) - r.nd
def rs (s : ByteArray) (k0 : Nat) : Nat → RS
  | 0 => ⟨0, 0, 0, false, false⟩
  | n + 1 => (rs s k0 n).step (s.data.toList.getD (k0 + n) 0).toNat
/-- The text from place k0 on: digits, and one point at most. -/
structure Plain (s : ByteArray) (k0 : Nat) : Prop where
  few : s.size ≤ k0 + 18
  some : k0 < s.size
  seen : (rs s k0 (s.size - k0)).sd = true
  byte : ∀ n, (h : k0 + n < s.size) → (s[k0 + n].toNat = 46 ∧ (rs s k0 n).dot = false) ∨ (48 ≤ s[k0 + n].toNat ∧ s[k0 + n].toNat ≤ 57)

theorem Plain.facts {s : ByteArray} {k0 : Nat} (h : Plain s k0) (i : Nat) (hi : i < s.size) (hk : k0 ≤ i) : ((s[i].toNat : Int) == 43) = false ∧ ((s[i].toNat : Int) == 45) = false ∧ ((s[i].toNat : Int) == 95) = false ∧ (bits BinOp.or IntKind.u8 (s[i].toNat : Int) 32 == 120) = false := by
  obtain ⟨n, rfl⟩ := Nat.le.dest hk
  have := h.byte n hi
  generalize s[k0 + n].toNat = c at this
  have hc : c = 46 ∨ c = 48 ∨ c = 49 ∨ c = 50 ∨ c = 51 ∨ c = 52 ∨ c = 53 ∨ c = 54 ∨ c = 55 ∨ c = 56 ∨ c = 57 := by omega
  rcases hc with rfl | rfl | rfl | rfl | rfl | rfl | rfl | rfl | rfl | rfl | rfl <;> decide +kernel

theorem rs_succ (s : ByteArray) (k0 n : Nat) (h : k0 + n < s.size) : rs s k0 (n + 1) = (rs s k0 n).step s[k0 + n].toNat := by
  have : s.data.toList.getD (k0 + n) 0 = s[k0 + n] := by
    have h' : k0 + n < s.data.toList.length := h
    rw [List.getD_eq_getElem?_getD, List.getElem?_eq_getElem h']; rfl
  rw [rs, this]

theorem Plain.bound {s : ByteArray} {k0 : Nat} (h : Plain s k0) : ∀ n, k0 + n ≤ s.size → (rs s k0 n).nd ≤ n ∧ (rs s k0 n).mant < 10 ^ n ∧ -(n : Int) ≤ (rs s k0 n).dp ∧ (rs s k0 n).dp ≤ n
  | 0, _ => by simp [rs]
  | n + 1, hn => by
    have ih := h.bound n (by omega)
    have hb := h.byte n (by omega)
    rw [rs_succ s k0 n (by omega)]
    generalize s[k0 + n].toNat = c at hb
    generalize rs s k0 n = r at ih hb
    unfold RS.step
    have hp : (10 : Nat) ^ (n + 1) = 10 ^ n * 10 := Nat.pow_succ ..
    generalize (10 : Nat) ^ n = P at *
    split
    · dsimp only; omega
    · split
      · dsimp only; omega
      · dsimp only; omega

attribute [irreducible] rs
set_option maxRecDepth 100000 in
set_option maxHeartbeats 8000000 in
theorem readFloat_pos (s : ByteArray) (w : World) (hp : Plain s 0) :
    Calls Tryz.prog 53 #[.string s] w fun e w' => e = .returned (.tuple #[.int .u64 (rs s 0 (s.size - 0)).mant, .int .i64 (rs s 0 (s.size - 0)).exp, .bool false, .bool false, .bool false, .int .i64 s.size, .bool true]) ∧ w = w' := by
  have hs := hp.few
  have h0 := hp.some
  have hne : ¬ s = ByteArray.empty := by rintro rfl; simp at h0
  have f43 : ((s[0].toNat : Int) == 43) = false := (hp.facts 0 h0 (Nat.zero_le _)).1
  have f45 : ((s[0].toNat : Int) == 45) = false := (hp.facts 0 h0 (Nat.zero_le _)).2.1
  have f120 : ∀ (hi : 1 < s.size), (bits BinOp.or IntKind.u8 (s[1].toNat : Int) 32 == 120) = false := fun hi => (hp.facts 1 hi (Nat.zero_le _)).2.2.2
  go_enter Tryz.func53, Tryz.ntmps53
  go_wp2
  go_step3
  go_wp2
  all_goals
    go_step3
    go_wp2
    go_loopw [2, 5, 7, 9, 13, 14, 15, 16, 17] (fun m tr i us dot sd nd ndm dp wr => ∃ (n : Nat) (r : RS), 0 ≤ n ∧ n ≤ s.size ∧ rs s 0 (n - 0) = r ∧ i = .int .i64 n ∧ m = .int .u64 r.mant ∧ dot = .bool r.dot ∧ sd = .bool r.sd ∧ nd = .int .i64 r.nd ∧ ndm = .int .i64 r.nd ∧ dp = .int .i64 r.dp ∧ tr = .bool false ∧ us = .bool false ∧ wr = w) (fun _ _ i _ _ _ _ _ _ _ => s.size - (intOf i).toNat)
    case atStart => exact ⟨0, ⟨0, 0, 0, false, false⟩, Nat.le_refl _, by omega, by simp [rs], rfl, rfl, rfl, rfl, rfl, rfl, rfl, rfl, rfl, rfl⟩
    case round =>
      obtain ⟨n, r, hn0, hn, hr, rfl, rfl, rfl, rfl, rfl, rfl, rfl, rfl, rfl, rfl⟩ := hrel
      by_cases hlt : n < s.size
      · have hby := hp.byte (n - 0) (by omega)
        have hbd := hp.bound (n - 0) (by omega)
        have hsu := rs_succ s 0 (n - 0) (by omega)
        have f95 := (hp.facts n hlt (by omega)).2.2.1
        rw [hr] at hby hbd hsu
        obtain ⟨mant, nd, dp, sd, dot⟩ := r
        have e1 : 0 + (n - 0) = n := by omega
        have e2 : n - 0 + 1 = n + 1 - 0 := by omega
        simp only [e1] at hby
        rw [e2] at hsu
        simp only [e1] at hsu
        dsimp only at hby hbd
        generalize hc : s[n].toNat = c at hby hsu f95
        clear f43 f45 f120 hp hne
        have hp18 : (10 : Nat) ^ (n - 0) ≤ 10 ^ 17 := Nat.pow_le_pow_right (by omega) (by omega)
        generalize (10 : Nat) ^ (n - 0) = P at hbd hp18
        obtain ⟨hb1, hb2, hb3, hb4⟩ := hbd
        rcases hby with ⟨rfl, rfl⟩ | ⟨hc1, hc2⟩
        · go_wp2
          exact ⟨⟨n + 1, ⟨mant, nd, (nd : Int), sd, true⟩, by omega, by omega, hsu.trans rfl, by simp, by simp <;> omega, by simp, by simp, by simp, by simp, by simp, by simp, by simp, by simp⟩, by simp [intOf]; omega⟩
        · have f46 : ((c : Int) == 46) = false := by rw [beq_eq_false_iff_ne]; omega
          have g48 : (48 : Int) ≤ c := by omega
          have g57 : (c : Int) ≤ 57 := by omega
          have hw3 : IntKind.i64.wrap (dp - 1) = dp - 1 := by rw [IntKind.wrap_i64]; omega
          have hw4 : IntKind.i64.wrap ((nd : Int) + 1) = nd + 1 := by rw [IntKind.wrap_i64]; omega
          have hw5 : IntKind.u64.wrap ((mant : Int) * 10) = mant * 10 := by rw [IntKind.wrap_u64]; omega
          have hw6 : IntKind.u64.wrap ((c : Int) - 48) = c - 48 := by rw [IntKind.wrap_u64]; omega
          have hw7 : IntKind.u8.wrap ((c : Int) - 48) = c - 48 := by rw [IntKind.wrap_u8]; omega
          have hw8 : IntKind.u64.wrap ((mant : Int) * 10 + ((c : Int) - 48)) = mant * 10 + (c - 48) := by rw [IntKind.wrap_u64]; omega
          by_cases h48 : c = 48 ∧ nd = 0
          · obtain ⟨rfl, rfl⟩ := h48
            go_wp2
            exact ⟨⟨n + 1, ⟨mant, 0, dp - 1, true, dot⟩, by omega, by omega, hsu.trans rfl, by simp, by simp <;> omega, by simp, by simp, by simp, by simp, by simp, by simp, by simp, by simp⟩, by simp [intOf]; omega⟩
          · have g19 : (nd : Int) < 19 := by omega
            have hst : rs s 0 (n + 1 - 0) = ⟨mant * 10 + (c - 48), nd + 1, dp, true, dot⟩ := by
              rw [hsu, RS.step, if_neg (by omega), if_neg h48]
            have hcc : ((c - 48 : Nat) : Int) = c - 48 := by omega
            rcases Nat.eq_zero_or_pos nd with rfl | hnd
            · have f48 : ((c : Int) == 48) = false := by rw [beq_eq_false_iff_ne]; omega
              go_wp2
              exact ⟨⟨n + 1, _, by omega, by omega, hst, by simp, by simp <;> omega, by simp, by simp, by simp, by simp, by simp, by simp, by simp, by simp⟩, by simp [intOf]; omega⟩
            · have fnd : ((nd : Int) == 0) = false := by rw [beq_eq_false_iff_ne]; omega
              by_cases hc48 : c = 48
              · subst hc48
                go_wp2
                exact ⟨⟨n + 1, _, by omega, by omega, hst, by simp, by simp <;> omega, by simp, by simp, by simp, by simp, by simp, by simp, by simp, by simp⟩, by simp [intOf]; omega⟩
              · have f48 : ((c : Int) == 48) = false := by rw [beq_eq_false_iff_ne]; omega
                go_wp2
                exact ⟨⟨n + 1, _, by omega, by omega, hst, by simp, by simp <;> omega, by simp, by simp, by simp, by simp, by simp, by simp, by simp, by simp⟩, by simp [intOf]; omega⟩
      · obtain rfl : n = s.size := by omega
        clear hlt hn f43 f45 f120
        have hse := hp.seen
        have hbd := hp.bound (s.size - 0) (by omega)
        rw [hr] at hse hbd
        obtain ⟨mant, nd, dp, sd, dot⟩ := r
        dsimp only at hse hbd
        subst hse
        have hw1 : IntKind.i64.wrap (dp - (nd : Int)) = dp - nd := by rw [IntKind.wrap_i64]; omega
        have hw2 : IntKind.i64.wrap ((nd : Int) - (nd : Int)) = (nd : Int) - nd := by rw [IntKind.wrap_i64]; omega
        cases dot
        all_goals
          rcases Nat.eq_zero_or_pos mant with rfl | hm
        all_goals
          dsimp only
          clear hp hne
          go_wp2
          rw [Exit.noGoto_ret]
          change bodyPost Tryz.prog Tryz.f53 _ _ _ _
          refine bodyPost_ret (v := .tuple #[.int .u64 (rs s 0 (s.size - 0)).mant, .int .i64 (rs s 0 (s.size - 0)).exp, .bool false, .bool false, .bool false, .int .i64 s.size, .bool true]) ?_ rfl ⟨rfl, rfl⟩
          rw [hr]
          simp [results, Tryz.results53, go_sem, RS.exp]
          try (intro h; omega)

set_option maxRecDepth 100000 in
set_option maxHeartbeats 8000000 in
theorem readFloat_neg (s : ByteArray) (w : World) (hp : Plain s 1) (hm : ∀ h : 0 < s.size, s[0].toNat = 45) :
    Calls Tryz.prog 53 #[.string s] w fun e w' => e = .returned (.tuple #[.int .u64 (rs s 1 (s.size - 1)).mant, .int .i64 (rs s 1 (s.size - 1)).exp, .bool true, .bool false, .bool false, .int .i64 s.size, .bool true]) ∧ w = w' := by
  have hs := hp.few
  have h0 := hp.some
  have hne : ¬ s = ByteArray.empty := by rintro rfl; simp at h0
  have f43 : s[0].toNat = 45 := hm (by omega)
  have f45 : (45 : Int) = 45 := rfl
  have f120 : ∀ (hi : 2 < s.size), (bits BinOp.or IntKind.u8 (s[2].toNat : Int) 32 == 120) = false := fun hi => (hp.facts 2 hi (by omega)).2.2.2
  go_enter Tryz.func53, Tryz.ntmps53
  go_wp2
  go_step3
  go_wp2
  all_goals
    go_step3
    go_wp2
    go_loopw [2, 5, 7, 9, 13, 14, 15, 16, 17] (fun m tr i us dot sd nd ndm dp wr => ∃ (n : Nat) (r : RS), 1 ≤ n ∧ n ≤ s.size ∧ rs s 1 (n - 1) = r ∧ i = .int .i64 n ∧ m = .int .u64 r.mant ∧ dot = .bool r.dot ∧ sd = .bool r.sd ∧ nd = .int .i64 r.nd ∧ ndm = .int .i64 r.nd ∧ dp = .int .i64 r.dp ∧ tr = .bool false ∧ us = .bool false ∧ wr = w) (fun _ _ i _ _ _ _ _ _ _ => s.size - (intOf i).toNat)
    case atStart => exact ⟨1, ⟨0, 0, 0, false, false⟩, Nat.le_refl _, by omega, by simp [rs], rfl, rfl, rfl, rfl, rfl, rfl, rfl, rfl, rfl, rfl⟩
    case round =>
      obtain ⟨n, r, hn0, hn, hr, rfl, rfl, rfl, rfl, rfl, rfl, rfl, rfl, rfl, rfl⟩ := hrel
      by_cases hlt : n < s.size
      · have hby := hp.byte (n - 1) (by omega)
        have hbd := hp.bound (n - 1) (by omega)
        have hsu := rs_succ s 1 (n - 1) (by omega)
        have f95 := (hp.facts n hlt (by omega)).2.2.1
        rw [hr] at hby hbd hsu
        obtain ⟨mant, nd, dp, sd, dot⟩ := r
        have e1 : 1 + (n - 1) = n := by omega
        have e2 : n - 1 + 1 = n + 1 - 1 := by omega
        simp only [e1] at hby
        rw [e2] at hsu
        simp only [e1] at hsu
        dsimp only at hby hbd
        generalize hc : s[n].toNat = c at hby hsu f95
        clear f43 f45 f120 hp hne
        have hp18 : (10 : Nat) ^ (n - 1) ≤ 10 ^ 17 := Nat.pow_le_pow_right (by omega) (by omega)
        generalize (10 : Nat) ^ (n - 1) = P at hbd hp18
        obtain ⟨hb1, hb2, hb3, hb4⟩ := hbd
        rcases hby with ⟨rfl, rfl⟩ | ⟨hc1, hc2⟩
        · go_wp2
          exact ⟨⟨n + 1, ⟨mant, nd, (nd : Int), sd, true⟩, by omega, by omega, hsu.trans rfl, by simp, by simp <;> omega, by simp, by simp, by simp, by simp, by simp, by simp, by simp, by simp⟩, by simp [intOf]; omega⟩
        · have f46 : ((c : Int) == 46) = false := by rw [beq_eq_false_iff_ne]; omega
          have g48 : (48 : Int) ≤ c := by omega
          have g57 : (c : Int) ≤ 57 := by omega
          have hw3 : IntKind.i64.wrap (dp - 1) = dp - 1 := by rw [IntKind.wrap_i64]; omega
          have hw4 : IntKind.i64.wrap ((nd : Int) + 1) = nd + 1 := by rw [IntKind.wrap_i64]; omega
          have hw5 : IntKind.u64.wrap ((mant : Int) * 10) = mant * 10 := by rw [IntKind.wrap_u64]; omega
          have hw6 : IntKind.u64.wrap ((c : Int) - 48) = c - 48 := by rw [IntKind.wrap_u64]; omega
          have hw7 : IntKind.u8.wrap ((c : Int) - 48) = c - 48 := by rw [IntKind.wrap_u8]; omega
          have hw8 : IntKind.u64.wrap ((mant : Int) * 10 + ((c : Int) - 48)) = mant * 10 + (c - 48) := by rw [IntKind.wrap_u64]; omega
          by_cases h48 : c = 48 ∧ nd = 0
          · obtain ⟨rfl, rfl⟩ := h48
            go_wp2
            exact ⟨⟨n + 1, ⟨mant, 0, dp - 1, true, dot⟩, by omega, by omega, hsu.trans rfl, by simp, by simp <;> omega, by simp, by simp, by simp, by simp, by simp, by simp, by simp, by simp⟩, by simp [intOf]; omega⟩
          · have g19 : (nd : Int) < 19 := by omega
            have hst : rs s 1 (n + 1 - 1) = ⟨mant * 10 + (c - 48), nd + 1, dp, true, dot⟩ := by
              rw [hsu, RS.step, if_neg (by omega), if_neg h48]
            have hcc : ((c - 48 : Nat) : Int) = c - 48 := by omega
            rcases Nat.eq_zero_or_pos nd with rfl | hnd
            · have f48 : ((c : Int) == 48) = false := by rw [beq_eq_false_iff_ne]; omega
              go_wp2
              exact ⟨⟨n + 1, _, by omega, by omega, hst, by simp, by simp <;> omega, by simp, by simp, by simp, by simp, by simp, by simp, by simp, by simp⟩, by simp [intOf]; omega⟩
            · have fnd : ((nd : Int) == 0) = false := by rw [beq_eq_false_iff_ne]; omega
              by_cases hc48 : c = 48
              · subst hc48
                go_wp2
                exact ⟨⟨n + 1, _, by omega, by omega, hst, by simp, by simp <;> omega, by simp, by simp, by simp, by simp, by simp, by simp, by simp, by simp⟩, by simp [intOf]; omega⟩
              · have f48 : ((c : Int) == 48) = false := by rw [beq_eq_false_iff_ne]; omega
                go_wp2
                exact ⟨⟨n + 1, _, by omega, by omega, hst, by simp, by simp <;> omega, by simp, by simp, by simp, by simp, by simp, by simp, by simp, by simp⟩, by simp [intOf]; omega⟩
      · obtain rfl : n = s.size := by omega
        clear hlt hn f43 f45 f120
        have hse := hp.seen
        have hbd := hp.bound (s.size - 1) (by omega)
        rw [hr] at hse hbd
        obtain ⟨mant, nd, dp, sd, dot⟩ := r
        dsimp only at hse hbd
        subst hse
        have hw1 : IntKind.i64.wrap (dp - (nd : Int)) = dp - nd := by rw [IntKind.wrap_i64]; omega
        have hw2 : IntKind.i64.wrap ((nd : Int) - (nd : Int)) = (nd : Int) - nd := by rw [IntKind.wrap_i64]; omega
        cases dot
        all_goals
          rcases Nat.eq_zero_or_pos mant with rfl | hm
        all_goals
          dsimp only
          clear hp hne
          go_wp2
          rw [Exit.noGoto_ret]
          change bodyPost Tryz.prog Tryz.f53 _ _ _ _
          refine bodyPost_ret (v := .tuple #[.int .u64 (rs s 1 (s.size - 1)).mant, .int .i64 (rs s 1 (s.size - 1)).exp, .bool true, .bool false, .bool false, .int .i64 s.size, .bool true]) ?_ rfl ⟨rfl, rfl⟩
          rw [hr]
          simp [results, Tryz.results53, go_sem, RS.exp]
          try (intro h; omega)
end Go.Proofs.YtnmjfjfpedbalaaGreatDoor
