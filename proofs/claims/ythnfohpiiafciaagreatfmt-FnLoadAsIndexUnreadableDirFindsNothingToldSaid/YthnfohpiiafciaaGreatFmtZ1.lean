/- The size checks and the clone, for the laws on loadAsIndex. -/
import Derived.Test.YthnfohpiiafciaaGreatFmtRows
import Derived.Test.YthnfohpiiafciaaGreatFmtBase
namespace Go.Proofs.YthnfohpiiafciaaGreatFmt
open Go.RowKit

set_option maxHeartbeats 1000000 in
theorem zz_FnLoadAsIndexEmptyDirFindsNothing (s : ByteArray) (xa : Option Addr) (xn xc : Nat) (xS : Nat → ByteArray) (w : World) (hs : s.size ≤ maxLen) (hx : xn ≤ maxLen) (hrx : RowAt w xa xn (strAt xS)) :
    Calls Tryz.prog 5 #[.string s, .slice xa xn xc] w (BoolIf (s.size ≤ 1048576 ∧ xn ≤ 1048576 ∧ AllLeTo 1048576 (szAt xS) xn) w) := by
  unfold maxLen at hs hx
  have Hrx := Lib.hid hrx
  clear hrx
  go_enter Tryz.func5, Tryz.ntmps5
  go_wp2
  · go_ret; exact ⟨false, rfl, (fun h => Bool.noConfusion h), rfl⟩
  · go_ret; exact ⟨false, rfl, (fun h => Bool.noConfusion h), rfl⟩
  · go_ret; exact ⟨false, rfl, (fun h => Bool.noConfusion h), rfl⟩
  go_loop [5, 6] (fun z i => ∃ (k : Nat) (m : Int), k ≤ xn ∧ i = .int .i64 k ∧ z = .int .i64 m ∧ 0 ≤ m ∧ m ≤ 1048576 ∧ AllLeTo 1048576 (szAt xS) k) (fun _ i => xn - (intOf i).toNat)
  case atStart => exact ⟨0, _, Nat.zero_le _, rfl, rfl, by omega, by omega, AllLeTo.zero _ _⟩
  case round =>
    obtain ⟨k, m, hk, rfl, rfl, hm0, hm1, hle⟩ := hrel
    by_cases hlt : k < xn
    · obtain ⟨b, o, ha, _, h2⟩ := Hrx.out.blk (by omega)
      have h3 := h2 k hlt
      clear h2
      subst ha
      have HLE := Lib.hid hle
      clear hle
      simp only [strAt] at h3
      generalize hx : xS k = x at h3
      have HX := Lib.hid hx
      clear hx
      go_wp2
      · go_ret; exact ⟨false, rfl, (fun h => Bool.noConfusion h), rfl⟩
      · go_ret; exact ⟨false, rfl, (fun h => Bool.noConfusion h), rfl⟩
      · exact ⟨⟨k + 1, _, by omega, by go_num, rfl, by omega, by omega, HLE.out.succ (by show (xS k).size ≤ _; rw [HX.out]; omega)⟩, by simp [intOf]; omega⟩
    · have HLx : Hid (AllLeTo 1048576 (szAt xS) xn) := fun i hi => hle i (by omega)
      clear hle
      go_wp2
      go_ret
      exact ⟨true, rfl, fun _ => ⟨(by omega), (by omega), HLx.out⟩, rfl⟩

set_option maxHeartbeats 1000000 in
theorem zz_FnLoadAsIndexUnreadableDirFindsNothing (s : ByteArray) (xa : Option Addr) (xn xc : Nat) (xS : Nat → ByteArray) (w : World) (hs : s.size ≤ maxLen) (hx : xn ≤ maxLen) (hrx : RowAt w xa xn (strAt xS)) :
    Calls Tryz.prog 9 #[.string s, .slice xa xn xc] w (BoolIf (s.size ≤ 1048576 ∧ xn ≤ 1048576 ∧ AllLeTo 1048576 (szAt xS) xn) w) := by
  unfold maxLen at hs hx
  have Hrx := Lib.hid hrx
  clear hrx
  go_enter Tryz.func9, Tryz.ntmps9
  go_wp2
  · go_ret; exact ⟨false, rfl, (fun h => Bool.noConfusion h), rfl⟩
  · go_ret; exact ⟨false, rfl, (fun h => Bool.noConfusion h), rfl⟩
  · go_ret; exact ⟨false, rfl, (fun h => Bool.noConfusion h), rfl⟩
  go_loop [5, 6] (fun z i => ∃ (k : Nat) (m : Int), k ≤ xn ∧ i = .int .i64 k ∧ z = .int .i64 m ∧ 0 ≤ m ∧ m ≤ 1048576 ∧ AllLeTo 1048576 (szAt xS) k) (fun _ i => xn - (intOf i).toNat)
  case atStart => exact ⟨0, _, Nat.zero_le _, rfl, rfl, by omega, by omega, AllLeTo.zero _ _⟩
  case round =>
    obtain ⟨k, m, hk, rfl, rfl, hm0, hm1, hle⟩ := hrel
    by_cases hlt : k < xn
    · obtain ⟨b, o, ha, _, h2⟩ := Hrx.out.blk (by omega)
      have h3 := h2 k hlt
      clear h2
      subst ha
      have HLE := Lib.hid hle
      clear hle
      simp only [strAt] at h3
      generalize hx : xS k = x at h3
      have HX := Lib.hid hx
      clear hx
      go_wp2
      · go_ret; exact ⟨false, rfl, (fun h => Bool.noConfusion h), rfl⟩
      · go_ret; exact ⟨false, rfl, (fun h => Bool.noConfusion h), rfl⟩
      · exact ⟨⟨k + 1, _, by omega, by go_num, rfl, by omega, by omega, HLE.out.succ (by show (xS k).size ≤ _; rw [HX.out]; omega)⟩, by simp [intOf]; omega⟩
    · have HLx : Hid (AllLeTo 1048576 (szAt xS) xn) := fun i hi => hle i (by omega)
      clear hle
      go_wp2
      go_ret
      exact ⟨true, rfl, fun _ => ⟨(by omega), (by omega), HLx.out⟩, rfl⟩

theorem cloneStrings_any_info : (Tryz.prog.info? 9).map (fun i => (i.zero, i.size, i.bytes)) = some (some (.string ByteArray.empty), 1, 16) := by kernel_rfl
set_option maxHeartbeats 1000000 in
theorem cloneStrings_any (a : Option Addr) (n c : Nat) (S : Nat → ByteArray) (w : World) (hn : n ≤ 1048576) (hr : RowAt w a n (strAt S)) :
    Calls Tryz.prog 7 #[.slice a n c] w (Cloned (strAt S) n w) := by
  obtain ⟨i0, hi, hz0, hz1, hz2⟩ := info_parts cloneStrings_any_info
  have hq := fun (wx : World) => Lib.run_eql_slice_nil (P := Tryz.prog) wx 22 9 a n c 0 0 Tryz.underlying22
  have Hr := Lib.hid hr
  clear hr
  cases a with
  | none =>
    have h0 : n = 0 := by
      rcases Nat.eq_zero_or_pos n with h | h
      · exact h
      · obtain ⟨b, o, h1, _⟩ := Hr.out h
        cases h1
    subst h0
    clear hn
    go_enter Tryz.func7, Tryz.ntmps7
    go_wp2
    go_ret
    exact ⟨_, _, rfl, by unfold maxLen; omega, RowAt.zero _ _ _, Below.refl _ _⟩
  | some a =>
    go_enter Tryz.func7, Tryz.ntmps7
    go_wp2_with (refine wpList_make_full _ rfl _ _ 22 rfl w.heap.size 9 i0 _ 1 Tryz.underlying22 hi hz0 hz1 .i64 .i64 _ _ n rfl rfl rfl rfl ?c1 ?c2 ?c3 ?c4)
    case c1 => rw [hz2]; omega
    case c2 => unfold maxLen; omega
    case c3 => exact Nat.le_refl _
    case c4 =>
      intro w1 hown hg
      rw [madeCells_list1 _ _ rfl, ← mixRow_zero ((List.range n).map (strAt S))] at hown
      have hb0 : Below w.heap.size w w1 := (Below.refl _ _).grown hg (Nat.le_refl _) (fun k h => by cases h)
      have hsz := hb0.size
      go_wp2
      go_loopw [4] (fun i wr => ∃ k : Nat, k ≤ n ∧ i = .int .i64 k ∧ wr.ownsRow w.heap.size 9 1 (.slice (some ⟨w.heap.size, 0, none⟩) n n) n (mixRow ((List.range n).map (strAt S)) (.string ByteArray.empty) n k) ∧ Below w.heap.size w wr) (fun i _ => n - (intOf i).toNat)
      case atStart => exact ⟨0, Nat.zero_le _, rfl, hown, hb0⟩
      case round =>
        obtain ⟨k, hk, rfl, hown, hb⟩ := hrel
        by_cases hlt : k < n
        · obtain ⟨b, o, ha, hbl, h2⟩ := Hr.out.blk (by omega)
          have h3 := (hb.cell (p := ⟨b, o + k, none⟩) hbl).trans (h2 k hlt)
          clear h2
          simp only [Option.some.injEq] at ha
          subst ha
          have h4 := (hown.cellAt k (by omega)).trans (mixRow_at _ _ _ _ hlt (by simp))
          have h5 := hown.frozenAt k
          have hst := hown.stored k ((strAt S) k)
          rw [mixRow_set _ (.string ByteArray.empty) ((strAt S) k) n k hlt (by simp) (range_map_at _ _ _ hlt)] at hst
          have HS := Lib.hid hst
          clear hst
          go_wp2
          exact ⟨⟨k + 1, by omega, by go_num, HS.out.1, hb.setCell (by simp) _⟩, by simp [intOf]; omega⟩
        · go_wp2
          go_ret
          obtain rfl : k = n := by omega
          rw [mixRow_full _ _ _ (by simp)] at hown
          exact ⟨_, _, rfl, by unfold maxLen; omega, fun h0 => ⟨_, 0, rfl, fun i hi => by rw [Nat.zero_add, hown.cellAt i (by omega), range_map_at _ _ _ hi]⟩, hb⟩
end Go.Proofs.YthnfohpiiafciaaGreatFmt
