/- formatFloat: the text of FormatFloat, noughts and a bare point struck. -/
import Derived.Test.YtodlhjdogcpffaaDoorFtoaZ
import Derived.Test.YtodlhjdogcpffaaDoorTrimR
namespace Go.Proofs.YtodlhjdogcpffaaDoor
open Go.RowKit

/-- Noughts at the end, then a point at the end are struck. -/
def Struck (s r : ByteArray) : Prop := ∃ n, Trimmed s n ∧ 0 < n ∧ ((∃ h : n - 1 < s.size, s[n - 1].toNat = 46 ∧ r = s.extract 0 (n - 1)) ∨ (∃ h : n - 1 < s.size, s[n - 1].toNat ≠ 46 ∧ r = s.extract 0 n))

theorem cut_any (s : ByteArray) (n : Nat) (w : World) (hs : s.size ≤ 100000) (hn : Trimmed s n) (h0 : 0 < n) : Calls Tryd.prog 20 #[.string (s.extract 0 n), .string { data := #[46] }] w fun e w' => ∃ r, e = .returned (.string r) ∧ Struck s r ∧ Below w.heap.size w w' := by
  have hle := hn.le
  have hsz : (s.extract 0 n).size = n := by rw [ByteArray.size_extract]; omega
  have hg : (s.extract 0 n)[(s.extract 0 n).size - 1]'(by omega) = s[n - 1]'(by omega) := by
    rw [ByteArray.getElem_extract]
    congr 1; omega
  by_cases hb : (s[n - 1]'(by omega)).toNat = 46
  · refine (cut_yes (s.extract 0 n) w (by omega) (by omega) (by rw [hg]; exact hb)).mono ?_
    rintro e w' ⟨rfl, h2⟩
    refine ⟨_, rfl, ⟨n, hn, h0, Or.inl ⟨by omega, hb, ?_⟩⟩, h2⟩
    rw [hsz]
    apply ByteArray.ext
    rw [ByteArray.data_extract, ByteArray.data_extract, ByteArray.data_extract]
    simp only [Array.extract_extract]
    congr 1
    omega
  · refine (cut_no (s.extract 0 n) w (by omega) (by omega) (by rw [hg]; exact hb)).mono ?_
    rintro e w' ⟨rfl, h2⟩
    exact ⟨_, rfl, ⟨n, hn, h0, Or.inr ⟨by omega, hb, rfl⟩⟩, h2⟩

set_option maxRecDepth 100000 in
set_option maxHeartbeats 2000000 in
theorem ff_any (v : Nat) (k : Nat) (s : ByteArray) (w : World) (hs : s.size ≤ 100000) (hp : ∃ i, ∃ h : i < s.size, s[i].toNat ≠ 48)
    (h : ∀ wx, Below w.heap.size w wx → Calls Tryd.prog 22 #[.float .f64 v, .int .u8 102, .int .i64 k, .int .i64 64] wx fun e w' => e = .returned (.string s) ∧ Below wx.heap.size wx w') :
    Calls Tryd.prog 15 #[.agg #[.float .f64 v], .int .i64 k] w fun e w' => ∃ r, e = .returned (.string r) ∧ Struck s r ∧ Below w.heap.size w w' := by
  have HF := Lib.hid h
  clear h
  go_enter Tryd.func15, Tryd.ntmps15
  go_wp2_with (go_at_call 19; go_in)
  refine (HF.out _ (((Below.refl _ _).alloc (Nat.le_refl _) _).alloc (by simp) _)).mono ?_
  rintro e w1 ⟨rfl, hb1⟩
  have H1 := Lib.hid ((((Below.refl w.heap.size w).alloc (Nat.le_refl _) (.cells #[.float .f64 v] 45)).alloc (by simp) (.cells #[.float .f64 v] 45)).trans (hb1.mono (by simp; omega)))
  clear hb1
  go_wp2_with fail
  refine (trim_any s _ hs).mono ?_
  rintro e w2 ⟨n, rfl, hn, hb2⟩
  have hn0 : 0 < n := by
    obtain ⟨i, hi, hne⟩ := hp
    rcases Nat.eq_zero_or_pos n with rfl | h
    · exact absurd (hn.zero i hi (Nat.zero_le _)) hne
    · exact h
  have H2 := Lib.hid (And.intro hn (H1.out.trans (hb2.mono H1.out.size)))
  clear hn hb2
  go_wp2_with fail
  refine (cut_any s n _ hs H2.out.1 hn0).mono ?_
  rintro e w3 ⟨r, rfl, hr, hb3⟩
  have H3 := Lib.hid (And.intro hr (H2.out.2.trans (hb3.mono H2.out.2.size)))
  clear hr hb3
  go_wp2
  go_ret
  exact ⟨r, rfl, H3.out⟩
end Go.Proofs.YtodlhjdogcpffaaDoor
