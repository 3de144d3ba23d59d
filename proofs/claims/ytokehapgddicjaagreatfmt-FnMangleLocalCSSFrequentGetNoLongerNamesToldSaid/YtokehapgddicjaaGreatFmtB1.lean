/- What the arguments measure: zzStrBytes, zzCSSBytes, zzCSSFits. -/
import Derived.Test.YtokehapgddicjaaGreatFmtZ1
namespace Go.Proofs.YtokehapgddicjaaGreatFmt
open Go.RowKit
set_option linter.unusedVariables false
set_option linter.unusedSimpArgs false
set_option maxRecDepth 100000 in
set_option maxHeartbeats 400000 in
theorem strBytes_any (a : Option Addr) (n c : Nat) (S : Nat → ByteArray) (w : World) (hn : n ≤ 1048576) (hr : RowAt w a n (strAt S)) (hs : AllLeTo 1048576 (szAt S) n) :
    Calls Tryz.prog 18 #[.slice a n c] w (fun e w' => ∃ v : Nat, e = .returned (.int .i64 v) ∧ v ≤ 33554432 ∧ w' = w) := by
  have HR := Lib.hid (And.intro hr hs)
  clear hr hs
  have q1 : ¬ (1048576 : Int) < n := by omega
  go_enter Tryz.func18, Tryz.ntmps18
  go_wp2_with fail
  go_loopw [3, 4] (fun tv iv wr => ∃ (k m : Nat), k ≤ n ∧ iv = .int .i64 k ∧ tv = .int .i64 m ∧ m ≤ 33554432 ∧ wr = w) (fun _ iv _ => n - (intOf iv).toNat)
  case atStart => exact ⟨0, 16 * n, Nat.zero_le _, rfl, by go_num, by omega, rfl⟩
  case round =>
    obtain ⟨k, m, hk, rfl, rfl, hm, rfl⟩ := hrel
    by_cases hlt : k < n
    · obtain ⟨b, o, rfl, hbl, h2⟩ := HR.out.1.blk (by omega)
      have h3 := h2 k hlt
      have h4 := HR.out.2 k hlt
      change wr.cell? _ = some (.string (S k)) at h3
      change (S k).size ≤ 1048576 at h4
      generalize S k = x at h3 h4
      clear h2
      by_cases hm2 : m ≤ 1048576
      · go_wp2_with fail
        go_roundw
        case rel => exact ⟨k + 1, m + x.size, by omega, by go_num, by go_num, by omega, by first | rfl | trivial⟩
        case measure => simp [intOf]; omega
      · have hm3 : ¬ (m : Int) ≤ 1048576 := by omega
        go_wp2_with fail
        go_ret
        exact ⟨m, rfl, hm, rfl⟩
    · go_wp2_with fail
      go_ret
      exact ⟨m, rfl, hm, rfl⟩
set_option maxRecDepth 100000 in
set_option maxHeartbeats 400000 in
theorem cssBytes_any (ident : ByteArray) (na : Option Addr) (nn nc : Nat) (S : Nat → ByteArray) (ga : Option Addr) (gn gc : Nat) (ca : Option Addr) (cn cc : Nat) (ua : Option Addr) (un uc : Nat) (U : Nat → ByteArray) (w : World) (hi : ident.size ≤ 1048576) (hn : nn ≤ 1048576) (hg : gn ≤ 1048576) (hc : cn ≤ 1048576) (hu : un ≤ 1048576)
    (hr : RowAt w na nn (strAt S)) (hs : AllLeTo 1048576 (szAt S) nn) (hr2 : RowAt w ua un (strAt U)) (hs2 : AllLeTo 1048576 (szAt U) un) :
    Calls Tryz.prog 7 #[.string ident, .slice na nn nc, .slice ga gn gc, .slice ca cn cc, .slice ua un uc] w (fun e w' => ∃ v : Int, e = .returned (.int .u64 v) ∧ w' = w) := by
  have h1 := strBytes_any na nn nc S w hn hr hs
  have h2 := strBytes_any ua un uc U w hu hr2 hs2
  have q1 : ¬ (1048576 : Int) < ident.size := by omega
  have q2 : ¬ (1048576 : Int) < nn := by omega
  have q3 : ¬ (1048576 : Int) < gn := by omega
  have q4 : ¬ (1048576 : Int) < cn := by omega
  have q5 : ¬ (1048576 : Int) < un := by omega
  have H1 := Lib.hid h1
  have H2 := Lib.hid h2
  clear h1 h2 hr hs hr2 hs2
  go_enter Tryz.func7, Tryz.ntmps7
  go_wp2_with fail
  refine H1.out.mono ?_
  rintro e w1 ⟨v1, rfl, hv1, rfl⟩
  go_wp2_with fail
  refine H2.out.mono ?_
  rintro e w2 ⟨v2, rfl, hv2, rfl⟩
  go_wp2_with fail
  go_ret
  exact ⟨_, rfl, rfl⟩
set_option maxRecDepth 100000 in
set_option maxHeartbeats 400000 in
theorem cssFits_any (na : Option Addr) (nn nc : Nat) (ga : Option Addr) (gn gc : Nat) (ca : Option Addr) (cn cc : Nat) (ua : Option Addr) (un uc : Nat) (w : World) (hn : nn ≤ 1048576) (hg : gn ≤ 1048576) (hc : cn ≤ 1048576) (hu : un ≤ 1048576) :
    Calls Tryz.prog 8 #[.slice na nn nc, .slice ga gn gc, .slice ca cn cc, .slice ua un uc] w (BoolIf (nn ≤ 4096 ∧ gn = nn ∧ cn = nn ∧ un ≤ 4096) w) := by
  by_cases h1 : nn ≤ 4096
  · by_cases h2 : gn ≤ 4096
    · by_cases h3 : cn ≤ 4096
      · by_cases h4 : un ≤ 4096
        · by_cases h5 : gn = nn
          · subst h5
            by_cases h6 : cn = gn
            · subst h6
              go_enter Tryz.func8, Tryz.ntmps8
              go_wp2_with fail
              go_ret
              exact ⟨_, rfl, fun _ => by first | exact ⟨h1, rfl, rfl, h4⟩ | exact ⟨h1, trivial, trivial, h4⟩, rfl⟩
            · have q : ((cn : Int) == gn) = false := beq_eq_false_iff_ne.2 (by omega)
              go_enter Tryz.func8, Tryz.ntmps8
              go_wp2_with fail
              go_ret
              exact ⟨false, rfl, fun h => (by cases h), rfl⟩
          · have q : ((gn : Int) == nn) = false := beq_eq_false_iff_ne.2 (by omega)
            go_enter Tryz.func8, Tryz.ntmps8
            go_wp2_with fail
            go_ret
            exact ⟨false, rfl, fun h => (by cases h), rfl⟩
        · have q : (4096 : Int) < un := by omega
          go_enter Tryz.func8, Tryz.ntmps8
          go_wp2_with fail
          go_ret
          exact ⟨false, rfl, fun h => (by cases h), rfl⟩
      · have q : (4096 : Int) < cn := by omega
        go_enter Tryz.func8, Tryz.ntmps8
        go_wp2_with fail
        go_ret
        exact ⟨false, rfl, fun h => (by cases h), rfl⟩
    · have q : (4096 : Int) < gn := by omega
      go_enter Tryz.func8, Tryz.ntmps8
      go_wp2_with fail
      go_ret
      exact ⟨false, rfl, fun h => (by cases h), rfl⟩
  · have q : (4096 : Int) < nn := by omega
    go_enter Tryz.func8, Tryz.ntmps8
    go_wp2_with fail
    go_ret
    exact ⟨false, rfl, fun h => (by cases h), rfl⟩
end Go.Proofs.YtokehapgddicjaaGreatFmt
