/- zzTrimRight at "0", strings.TrimSuffix at ".". -/
import Derived.Test.YtodlhjdogcpffaaDoorFmtSmall
namespace Go.Proofs.YtodlhjdogcpffaaDoor
open Go.RowKit

/-- n bytes of s are left when the noughts at the end are struck. -/
structure Trimmed (s : ByteArray) (n : Nat) : Prop where
  le : n ≤ s.size
  zero : ∀ j (h : j < s.size), n ≤ j → s[j].toNat = 48
  last : ∀ (_ : 0 < n) (h : n - 1 < s.size), s[n - 1].toNat ≠ 48

set_option maxRecDepth 100000 in
set_option maxHeartbeats 2000000 in
theorem trim_any (s : ByteArray) (w : World) (hs : s.size ≤ 100000) : Calls Tryd.prog 21 #[.string s, .string { data := #[48] }] w fun e w' => ∃ n, e = .returned (.string (s.extract 0 n)) ∧ Trimmed s n ∧ Below w.heap.size w w' := by
  go_enter Tryd.func21, Tryd.ntmps21
  go_wp2_with fail
  go_loopw [5, 6, 7] (fun n _ _ wr => ∃ q : Nat, n = .int .i64 q ∧ q ≤ s.size ∧ (∀ j (h : j < s.size), q ≤ j → s[j].toNat = 48) ∧ Below w.heap.size w wr) (fun n _ _ _ => (intOf n).toNat)
  case atStart => exact ⟨s.size, rfl, Nat.le_refl _, fun j h1 h2 => by omega, Below.refl _ _⟩
  case round =>
    obtain ⟨q, rfl, hq, hz, hbl⟩ := hrel
    have HE := Lib.hid (And.intro hz hbl)
    clear hz hbl
    rcases Nat.eq_zero_or_pos q with rfl | hq0
    · go_wp2
      have hx : s.extract 0 0 = ByteArray.empty := by simp
      go_ret
      refine ⟨0, ?_, ⟨Nat.zero_le _, HE.out.1, fun h => absurd h (Nat.lt_irrefl 0)⟩, HE.out.2⟩
      rw [hx]; rfl
    · obtain ⟨q, rfl⟩ : ∃ q', q = q' + 1 := ⟨q - 1, by omega⟩
      have hqI : (0 : Int) < (q : Int) + 1 := by omega
      have hsz48 : ({ data := #[48] } : ByteArray).size = 1 := rfl
      have hlt : q < s.size := by omega
      have e48 : (({ data := #[48] } : ByteArray)[0].toNat : Int) = 48 := rfl
      have hm0 : ((q : Int) + 1 - 1) = q := by omega
      have hwq : IntKind.i64.wrap ((q : Int) + 1 - 1) = q := by rw [IntKind.wrap_i64]; omega
      obtain ⟨c, hc⟩ : ∃ c, s[q].toNat = c := ⟨_, rfl⟩
      have HC := Lib.hid hc
      rcases Nat.lt_trichotomy c 48 with h48 | h48 | h48
      · have hne : c ≠ 48 := by omega
        have HN := Lib.hid hne
        clear hne
        have hcmp : ((48 : Int) == (c : Int)) = false := by rw [beq_eq_false_iff_ne]; omega
        go_wp2_with fail
        refine wp_loop_rounds 2 ?_
        rw [rounds_succ]
        go_wp2_with fail
        go_quiet (fail)
        go_wp2_with fail
        rw [rounds_succ]
        go_wp2
        go_ret
        exact ⟨q + 1, rfl, ⟨hq, HE.out.1, fun _ h => by show s[q].toNat ≠ 48; rw [HC.out]; exact HN.out⟩, HE.out.2.trans ((drewN_below _ _).mono HE.out.2.size)⟩
      · have hcmp : ((48 : Int) == (c : Int)) = true := by rw [beq_iff_eq]; omega
        have HK := Lib.hid h48
        clear h48
        go_wp2_with fail
        refine wp_loop_rounds 2 ?_
        rw [rounds_succ]
        go_wp2_with fail
        go_quiet (fail)
        go_wp2_with fail
        rw [rounds_succ]
        go_wp2
        exact ⟨⟨q, by simp, by omega, fun j h1 h2 => by
          rcases Nat.lt_or_ge q j with h3 | h3
          · exact HE.out.1 j h1 h3
          · have : j = q := by omega
            subst this; rw [HC.out]; exact HK.out, HE.out.2.trans ((drewN_below _ _).mono HE.out.2.size)⟩, by simp [intOf]⟩
      · have hne : c ≠ 48 := by omega
        have HN := Lib.hid hne
        clear hne
        have hcmp : ((48 : Int) == (c : Int)) = false := by rw [beq_eq_false_iff_ne]; omega
        go_wp2_with fail
        refine wp_loop_rounds 2 ?_
        rw [rounds_succ]
        go_wp2_with fail
        go_quiet (fail)
        go_wp2_with fail
        rw [rounds_succ]
        go_wp2
        go_ret
        exact ⟨q + 1, rfl, ⟨hq, HE.out.1, fun _ h => by show s[q].toNat ≠ 48; rw [HC.out]; exact HN.out⟩, HE.out.2.trans ((drewN_below _ _).mono HE.out.2.size)⟩
theorem one_list (c : UInt8) : ({ data := #[c] } : ByteArray).toList = [c] := by
  have e : ({ data := #[c] } : ByteArray).size = 1 := rfl
  unfold ByteArray.toList
  rw [ByteArray.toList.loop, e, if_pos (by omega), ByteArray.toList.loop, e, if_neg (by omega)]
  rfl
theorem last_extract (s : ByteArray) (h : 0 < s.size) : s.extract (s.size - 1) s.size = { data := #[s[s.size - 1]] } := by
  apply ByteArray.ext
  rw [ByteArray.data_extract]
  have e : s.size = s.data.size := rfl
  apply Array.ext
  · simp; omega
  · intro i h1 h2
    simp at h2
    subst h2
    simp
    rfl

set_option maxRecDepth 100000 in
set_option maxHeartbeats 1000000 in
theorem cut_yes (s : ByteArray) (w : World) (hs : s.size ≤ 100000) (h : 0 < s.size) (hb : s[s.size - 1].toNat = 46) : Calls Tryd.prog 20 #[.string s, .string { data := #[46] }] w fun e w' => e = .returned (.string (s.extract 0 (s.size - 1))) ∧ Below w.heap.size w w' := by
  have hq : s.extract (s.size - 1) s.size = { data := #[46] } := by
    rw [last_extract s h]
    have : s[s.size - 1] = 46 := UInt8.toNat_inj.1 (by rw [hb]; rfl)
    rw [this]
  have h1 : ({ data := #[46] } : ByteArray).size = 1 := rfl
  go_enter Tryd.func20, Tryd.ntmps20
  go_wp2_with (first | (go_at_call 29; go_in) | (go_at_call 33; go_in))
  go_ret
  exact ⟨rfl, Below.refl _ _⟩

set_option maxRecDepth 100000 in
set_option maxHeartbeats 1000000 in
theorem cut_no (s : ByteArray) (w : World) (hs : s.size ≤ 100000) (h : 0 < s.size) (hb : s[s.size - 1].toNat ≠ 46) : Calls Tryd.prog 20 #[.string s, .string { data := #[46] }] w fun e w' => e = .returned (.string s) ∧ Below w.heap.size w w' := by
  have hq : ¬ s.extract (s.size - 1) s.size = { data := #[46] } := by
    rw [last_extract s h]
    intro he
    have h1 := congrArg ByteArray.data he
    simp at h1
    rw [h1] at hb
    exact hb rfl
  have hq2 : ((s.extract (s.size - 1) s.size).toList == [46]) = false := by
    rw [last_extract s h, beq_eq_false_iff_ne]
    intro he
    rw [one_list] at he
    have h2 := List.head_eq_of_cons_eq he
    rw [h2] at hb
    exact hb rfl
  have h1 : ({ data := #[46] } : ByteArray).size = 1 := rfl
  go_enter Tryd.func20, Tryd.ntmps20
  go_wp2_with (first | (go_at_call 29; go_in) | (go_at_call 33; go_in))
  go_ret
  exact ⟨rfl, Below.refl _ _⟩
end Go.Proofs.YtodlhjdogcpffaaDoor
