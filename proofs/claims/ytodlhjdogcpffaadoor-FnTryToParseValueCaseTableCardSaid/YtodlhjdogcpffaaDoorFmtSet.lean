/- setDigits: the digits of m in a row of bytes, the noughts at the end not counted. -/
import Derived.Test.YtodlhjdogcpffaaDoorFmtFixed
import Derived.Lib.ItoaMem
import Derived.Lib.OwnBridge
namespace Go.Proofs.YtodlhjdogcpffaaDoor
open Go.RowKit Go.Sort Go.Lib

/-- The digits of m at place 0 of the block B. -/
def DigRow (B m : Nat) (w : World) : Prop := ∀ j, j < Lib.nDigits m → w.cell? ⟨B, j, none⟩ = some (.int .u8 ((48 + m / 10 ^ (Lib.nDigits m - 1 - j) % 10 : Nat) : Int))
/-- nz of the nd digits are left when the noughts at the end are struck. -/
structure Kept (m nz : Nat) : Prop where
  le : nz ≤ Lib.nDigits m
  zero : ∀ j, nz ≤ j → j < Lib.nDigits m → m / 10 ^ (Lib.nDigits m - 1 - j) % 10 = 0

theorem below_put {B g n : Nat} {w0 w : World} {d : Array UInt8} (h : Below B w0 w) (hg : B ≤ g) : Below B w0 ((putRow (fun (b : UInt8) => Value.int .u8 (b.toNat : Int)) w g 0 d).drewN n) :=
  (below_putRow (enc := fun (b : UInt8) => Value.int .u8 (b.toNat : Int)) (q := 0) (d := d) h hg).trans ⟨rfl, rfl, rfl, Nat.le_refl _, fun _ _ => rfl⟩

theorem nDigits_le (m n : Nat) (h : m < 10 ^ n) (hn : 1 ≤ n) : Lib.nDigits m ≤ n := by
  rcases Nat.lt_or_ge n (Lib.nDigits m) with h1 | h1
  · exfalso
    rcases Nat.eq_zero_or_pos m with rfl | hm
    · have : Lib.nDigits 0 = 1 := Lib.nDigits_small (by omega)
      omega
    · have h2 : ∃ k, 10 ^ k ≤ m ∧ m < 10 ^ (k + 1) ∧ k < n := by
        have : ∀ n, m < 10 ^ n → ∃ k, 10 ^ k ≤ m ∧ m < 10 ^ (k + 1) ∧ k < n := by
          intro n
          induction n with
          | zero => intro h; rw [Nat.pow_zero] at h; omega
          | succ n ih =>
            intro h
            rcases Nat.lt_or_ge m (10 ^ n) with h3 | h3
            · obtain ⟨k, a, b, c⟩ := ih h3; exact ⟨k, a, b, by omega⟩
            · exact ⟨n, h3, h, by omega⟩
        exact this n h
      obtain ⟨k, a, b, c⟩ := h2
      have := Lib.nDigits_unique k m a b
      omega
  · exact h1

set_option maxRecDepth 100000 in
set_option maxHeartbeats 1000000 in
theorem set_any (m k B : Nat) (w w0 : World) (hB : w0.heap.size ≤ B) (hb : Below w0.heap.size w0 w) (hz : ∀ j, j < 24 → w.cell? ⟨B, j, none⟩ = some (.int .u8 0) ∧ w.frozen? ⟨B, j, none⟩ = false) (hm : 0 < m) (hm2 : m ≤ 1099511627776) (hk : k ≤ 4) :
    Calls Tryd.prog 48 #[.slice (some ⟨B, 0, none⟩) 24 24, .int .u64 m, .int .i64 (-(k : Int)), .int .i64 (Lib.nDigits m)] w fun e w' => ∃ nz : Nat, e = .returned (.tuple #[.int .i64 ((Lib.nDigits m : Int) - k), .int .i64 nz]) ∧ Kept m nz ∧ DigRow B m w' ∧ Below w0.heap.size w0 w' := by
  have hN1 := Lib.nDigits_pos m
  have hN2 : Lib.nDigits m ≤ 13 := nDigits_le m 13 (by omega) (by omega)
  have hlt := Lib.lt_pow_nDigits m
  have hHolds : Holds (fun (b : UInt8) => Value.int .u8 (b.toNat : Int)) w B 0 (Array.replicate (Lib.nDigits m) (0 : UInt8)) := by
    intro j hj
    rw [Array.size_replicate] at hj
    have := hz j (by omega)
    rw [Nat.zero_add]
    refine ⟨?_, this.2⟩
    rw [this.1, getElem!_pos _ j (by simpa using hj)]
    simp
  have HF := Lib.hid (Tryd.internal_strconv_formatBase10 B 0 24 m (Array.replicate (Lib.nDigits m) (0 : UInt8)) w hHolds (by simpa using hlt) (by omega) (by simp; omega))
  have HD : ∀ n v' dk, FmtInv (Array.replicate (Lib.nDigits m) (0 : UInt8)).size m 0 v' dk → DigRow B m ((putRow (fun (b : UInt8) => Value.int .u8 (b.toNat : Int)) w B 0 dk).drewN n) := by
    intro n v' dk hi j hj
    have hs := hi.size
    rw [Array.size_replicate] at hs
    have h1 := cell?_putRow (fun (b : UInt8) => Value.int .u8 (b.toNat : Int)) w B 0 _ dk hHolds (by rw [hs, Array.size_replicate]) j (by omega)
    rw [Nat.zero_add] at h1
    have h2 := hi.done j (Nat.zero_le _) (by simpa using hj)
    rw [Array.size_replicate] at h2
    have h3 : ((putRow (fun (b : UInt8) => Value.int .u8 (b.toNat : Int)) w B 0 dk).drewN n).cell? ⟨B, j, none⟩ = (putRow (fun (b : UInt8) => Value.int .u8 (b.toNat : Int)) w B 0 dk).cell? ⟨B, j, none⟩ := rfl
    rw [h3, h1, h2]
    have : (dg m (Lib.nDigits m - 1 - j)).toNat = 48 + m / 10 ^ (Lib.nDigits m - 1 - j) % 10 := by
      unfold dg; rw [UInt8.toNat_ofNat']; omega
    rw [this]
  have HK := Lib.hid (And.intro hb HD)
  rw [Array.size_replicate] at HF
  obtain ⟨N, hN⟩ : ∃ N, Lib.nDigits m = N := ⟨_, rfl⟩
  rw [hN] at HF hN1 hN2 ⊢
  clear hz hHolds HD hb
  have hNk : wrap64 ((N : Int) + -(k : Int)) = (N : Int) - k := by unfold wrap64; omega
  have hNk2 : (N : Int) + -(k : Int) = (N : Int) - k := by omega
  go_enter Tryd.func48, Tryd.ntmps48
  go_wp2_with fail
  refine HF.out.mono ?_
  rintro e w1 ⟨rfl, n, v', dk, hw1, hi⟩
  have hd1 : DigRow B m w1 := by rw [hw1]; exact HK.out.2 n v' dk (by rw [Array.size_replicate, hN]; exact hi)
  have hb1 : Below w0.heap.size w0 w1 := by rw [hw1]; exact below_put HK.out.1 hB
  clear hw1 hi
  unfold DigRow at hd1
  rw [hN] at hd1
  have H1 := Lib.hid (And.intro hd1 hb1)
  clear hd1 hb1 HF HK
  go_wp2_with fail
  go_loopw [3] (fun nd wr => ∃ q : Nat, nd = .int .i64 q ∧ q ≤ N ∧ (∀ j, q ≤ j → j < N → m / 10 ^ (N - 1 - j) % 10 = 0) ∧ (∀ j, j < N → wr.cell? ⟨B, j, none⟩ = some (.int .u8 ((48 + m / 10 ^ (N - 1 - j) % 10 : Nat) : Int))) ∧ Below w0.heap.size w0 wr) (fun nd _ => (RowKit.intOf nd).toNat)
  case atStart => exact ⟨N, rfl, Nat.le_refl _, fun j h1 h2 => by omega, H1.out.1, H1.out.2⟩
  case round =>
    obtain ⟨q, rfl, hq, hzr, hcl, hbl⟩ := hrel
    have HE := Lib.hid (And.intro hzr (And.intro hcl hbl))
    clear hzr hcl hbl
    have fin : ∀ q, q ≤ N → (∀ j, q ≤ j → j < N → m / 10 ^ (N - 1 - j) % 10 = 0) → Kept m q := fun q a b => ⟨by rw [hN]; exact a, by rw [hN]; exact b⟩
    have FK := Lib.hid fin
    clear fin
    rcases Nat.eq_zero_or_pos q with rfl | hq0
    · go_wp2
      go_ret2
      exact ⟨0, rfl, FK.out _ hq HE.out.1, by unfold DigRow; rw [hN]; exact HE.out.2.1, HE.out.2.2⟩
    · obtain ⟨q, rfl⟩ : ∃ q', q = q' + 1 := ⟨q - 1, by omega⟩
      have hc := HE.out.2.1 q (by omega)
      obtain ⟨D, hD⟩ : ∃ D, m / 10 ^ (N - 1 - q) % 10 = D := ⟨_, rfl⟩
      rw [hD] at hc
      have e48 : ((48 + D : Nat) : Int) = 48 + (D : Int) := by omega
      rw [e48] at hc
      rcases Nat.eq_zero_or_pos D with rfl | hD0
      · go_wp2
        exact ⟨⟨q, by simp, by omega, fun j h1 h2 => by
          rcases Nat.lt_or_ge q j with h3 | h3
          · exact HE.out.1 j h3 h2
          · have : j = q := by omega
            subst this; exact hD, HE.out.2.1, HE.out.2.2⟩, by simp [RowKit.intOf]⟩
      · have hne : ((48 + (D : Int)) == 48) = false := by rw [beq_eq_false_iff_ne]; omega
        go_wp2
        go_ret2
        exact ⟨q + 1, rfl, FK.out _ hq HE.out.1, by unfold DigRow; rw [hN]; exact HE.out.2.1, HE.out.2.2⟩
end Go.Proofs.YtodlhjdogcpffaaDoor
