/- The size checks; the clones. -/
import Derived.Test.YtokehapgddicjaaGreatFmtProg
import Derived.Test.YtokehapgddicjaaGreatFmtBase
namespace Go.Proofs.YtokehapgddicjaaGreatFmt
open Go.RowKit
set_option linter.unusedVariables false

set_option maxHeartbeats 1000000 in
theorem zz_FnMangleLocalCSSFrequentGetNoLongerNames (ident : ByteArray) (namesa : Option Addr) (namesn namesc : Nat) (namesS : Nat → ByteArray) (globa : Option Addr) (globn globc : Nat) (globB : Nat → Bool) (countsa : Option Addr) (countsn countsc : Nat) (countsZ : Nat → Int) (useda : Option Addr) (usedn usedc : Nat) (usedS : Nat → ByteArray) (w : World) (hident : ident.size ≤ maxLen) (hnames : namesn ≤ maxLen) (hrnames : RowAt w namesa namesn (strAt namesS)) (hglob : globn ≤ maxLen) (hcounts : countsn ≤ maxLen) (hused : usedn ≤ maxLen) (hrused : RowAt w useda usedn (strAt usedS)) :
    Calls Tryz.prog 6 #[.string ident, .slice namesa namesn namesc, .slice globa globn globc, .slice countsa countsn countsc, .slice useda usedn usedc] w (BoolIf (ident.size ≤ 1048576 ∧ namesn ≤ 1048576 ∧ AllLeTo 1048576 (szAt namesS) namesn ∧ globn ≤ 1048576 ∧ countsn ≤ 1048576 ∧ usedn ≤ 1048576 ∧ AllLeTo 1048576 (szAt usedS) usedn) w) := by
  unfold maxLen at hident hnames hglob hcounts hused
  have Hrnames := Lib.hid hrnames
  clear hrnames
  have Hrused := Lib.hid hrused
  clear hrused
  go_enter Tryz.func6, Tryz.ntmps6
  go_wp2
  · go_ret; exact ⟨false, rfl, (fun h => Bool.noConfusion h), rfl⟩
  · go_ret; exact ⟨false, rfl, (fun h => Bool.noConfusion h), rfl⟩
  · go_ret; exact ⟨false, rfl, (fun h => Bool.noConfusion h), rfl⟩
  go_loop [11, 12] (fun z i => ∃ (k : Nat) (m : Int), k ≤ namesn ∧ i = .int .i64 k ∧ z = .int .i64 m ∧ 0 ≤ m ∧ m ≤ 1048576 ∧ AllLeTo 1048576 (szAt namesS) k) (fun _ i => namesn - (intOf i).toNat)
  case atStart => exact ⟨0, _, Nat.zero_le _, rfl, rfl, by omega, by omega, AllLeTo.zero _ _⟩
  case round =>
    obtain ⟨k, m, hk, rfl, rfl, hm0, hm1, hle⟩ := hrel
    by_cases hlt : k < namesn
    · obtain ⟨b, o, ha, _, h2⟩ := Hrnames.out.blk (by omega)
      have h3 := h2 k hlt
      clear h2
      subst ha
      have HLE := Lib.hid hle
      clear hle
      simp only [strAt] at h3
      generalize hx : namesS k = x at h3
      have HX := Lib.hid hx
      clear hx
      go_wp2
      · go_ret; exact ⟨false, rfl, (fun h => Bool.noConfusion h), rfl⟩
      · go_ret; exact ⟨false, rfl, (fun h => Bool.noConfusion h), rfl⟩
      · exact ⟨⟨k + 1, _, by omega, by go_num, rfl, by omega, by omega, HLE.out.succ (by show (namesS k).size ≤ _; rw [HX.out]; omega)⟩, by simp [intOf]; omega⟩
    · have HLnames : Hid (AllLeTo 1048576 (szAt namesS) namesn) := fun i hi => hle i (by omega)
      clear hle
      go_wp2
      · go_ret; exact ⟨false, rfl, (fun h => Bool.noConfusion h), rfl⟩
      · go_ret; exact ⟨false, rfl, (fun h => Bool.noConfusion h), rfl⟩
      · go_ret; exact ⟨false, rfl, (fun h => Bool.noConfusion h), rfl⟩
      · go_ret; exact ⟨false, rfl, (fun h => Bool.noConfusion h), rfl⟩
      · go_ret; exact ⟨false, rfl, (fun h => Bool.noConfusion h), rfl⟩
      · go_ret; exact ⟨false, rfl, (fun h => Bool.noConfusion h), rfl⟩
      go_loop [11, 13] (fun z i => ∃ (k : Nat) (m : Int), k ≤ usedn ∧ i = .int .i64 k ∧ z = .int .i64 m ∧ 0 ≤ m ∧ m ≤ 1048576 ∧ AllLeTo 1048576 (szAt usedS) k) (fun _ i => usedn - (intOf i).toNat)
      case atStart => exact ⟨0, _, Nat.zero_le _, rfl, rfl, by omega, by omega, AllLeTo.zero _ _⟩
      case round =>
        obtain ⟨k, m, hk, rfl, rfl, hm0, hm1, hle⟩ := hrel
        by_cases hlt : k < usedn
        · obtain ⟨b, o, ha, _, h2⟩ := Hrused.out.blk (by omega)
          have h3 := h2 k hlt
          clear h2
          subst ha
          have HLE := Lib.hid hle
          clear hle
          simp only [strAt] at h3
          generalize hx : usedS k = x at h3
          have HX := Lib.hid hx
          clear hx
          go_wp2
          · go_ret; exact ⟨false, rfl, (fun h => Bool.noConfusion h), rfl⟩
          · go_ret; exact ⟨false, rfl, (fun h => Bool.noConfusion h), rfl⟩
          · exact ⟨⟨k + 1, _, by omega, by go_num, rfl, by omega, by omega, HLE.out.succ (by show (usedS k).size ≤ _; rw [HX.out]; omega)⟩, by simp [intOf]; omega⟩
        · have HLused : Hid (AllLeTo 1048576 (szAt usedS) usedn) := fun i hi => hle i (by omega)
          clear hle
          go_wp2
          go_ret
          exact ⟨true, rfl, fun _ => ⟨(by omega), (by omega), HLnames.out, (by omega), (by omega), (by omega), HLused.out⟩, rfl⟩

set_option maxHeartbeats 1000000 in
theorem zz_FnMangleLocalCSSMinifiedNamesAreFreshAndDistinct (ident : ByteArray) (namesa : Option Addr) (namesn namesc : Nat) (namesS : Nat → ByteArray) (globa : Option Addr) (globn globc : Nat) (globB : Nat → Bool) (countsa : Option Addr) (countsn countsc : Nat) (countsZ : Nat → Int) (useda : Option Addr) (usedn usedc : Nat) (usedS : Nat → ByteArray) (w : World) (hident : ident.size ≤ maxLen) (hnames : namesn ≤ maxLen) (hrnames : RowAt w namesa namesn (strAt namesS)) (hglob : globn ≤ maxLen) (hcounts : countsn ≤ maxLen) (hused : usedn ≤ maxLen) (hrused : RowAt w useda usedn (strAt usedS)) :
    Calls Tryz.prog 13 #[.string ident, .slice namesa namesn namesc, .slice globa globn globc, .slice countsa countsn countsc, .slice useda usedn usedc] w (BoolIf (ident.size ≤ 1048576 ∧ namesn ≤ 1048576 ∧ AllLeTo 1048576 (szAt namesS) namesn ∧ globn ≤ 1048576 ∧ countsn ≤ 1048576 ∧ usedn ≤ 1048576 ∧ AllLeTo 1048576 (szAt usedS) usedn) w) := by
  unfold maxLen at hident hnames hglob hcounts hused
  have Hrnames := Lib.hid hrnames
  clear hrnames
  have Hrused := Lib.hid hrused
  clear hrused
  go_enter Tryz.func13, Tryz.ntmps13
  go_wp2
  · go_ret; exact ⟨false, rfl, (fun h => Bool.noConfusion h), rfl⟩
  · go_ret; exact ⟨false, rfl, (fun h => Bool.noConfusion h), rfl⟩
  · go_ret; exact ⟨false, rfl, (fun h => Bool.noConfusion h), rfl⟩
  go_loop [11, 12] (fun z i => ∃ (k : Nat) (m : Int), k ≤ namesn ∧ i = .int .i64 k ∧ z = .int .i64 m ∧ 0 ≤ m ∧ m ≤ 1048576 ∧ AllLeTo 1048576 (szAt namesS) k) (fun _ i => namesn - (intOf i).toNat)
  case atStart => exact ⟨0, _, Nat.zero_le _, rfl, rfl, by omega, by omega, AllLeTo.zero _ _⟩
  case round =>
    obtain ⟨k, m, hk, rfl, rfl, hm0, hm1, hle⟩ := hrel
    by_cases hlt : k < namesn
    · obtain ⟨b, o, ha, _, h2⟩ := Hrnames.out.blk (by omega)
      have h3 := h2 k hlt
      clear h2
      subst ha
      have HLE := Lib.hid hle
      clear hle
      simp only [strAt] at h3
      generalize hx : namesS k = x at h3
      have HX := Lib.hid hx
      clear hx
      go_wp2
      · go_ret; exact ⟨false, rfl, (fun h => Bool.noConfusion h), rfl⟩
      · go_ret; exact ⟨false, rfl, (fun h => Bool.noConfusion h), rfl⟩
      · exact ⟨⟨k + 1, _, by omega, by go_num, rfl, by omega, by omega, HLE.out.succ (by show (namesS k).size ≤ _; rw [HX.out]; omega)⟩, by simp [intOf]; omega⟩
    · have HLnames : Hid (AllLeTo 1048576 (szAt namesS) namesn) := fun i hi => hle i (by omega)
      clear hle
      go_wp2
      · go_ret; exact ⟨false, rfl, (fun h => Bool.noConfusion h), rfl⟩
      · go_ret; exact ⟨false, rfl, (fun h => Bool.noConfusion h), rfl⟩
      · go_ret; exact ⟨false, rfl, (fun h => Bool.noConfusion h), rfl⟩
      · go_ret; exact ⟨false, rfl, (fun h => Bool.noConfusion h), rfl⟩
      · go_ret; exact ⟨false, rfl, (fun h => Bool.noConfusion h), rfl⟩
      · go_ret; exact ⟨false, rfl, (fun h => Bool.noConfusion h), rfl⟩
      go_loop [11, 13] (fun z i => ∃ (k : Nat) (m : Int), k ≤ usedn ∧ i = .int .i64 k ∧ z = .int .i64 m ∧ 0 ≤ m ∧ m ≤ 1048576 ∧ AllLeTo 1048576 (szAt usedS) k) (fun _ i => usedn - (intOf i).toNat)
      case atStart => exact ⟨0, _, Nat.zero_le _, rfl, rfl, by omega, by omega, AllLeTo.zero _ _⟩
      case round =>
        obtain ⟨k, m, hk, rfl, rfl, hm0, hm1, hle⟩ := hrel
        by_cases hlt : k < usedn
        · obtain ⟨b, o, ha, _, h2⟩ := Hrused.out.blk (by omega)
          have h3 := h2 k hlt
          clear h2
          subst ha
          have HLE := Lib.hid hle
          clear hle
          simp only [strAt] at h3
          generalize hx : usedS k = x at h3
          have HX := Lib.hid hx
          clear hx
          go_wp2
          · go_ret; exact ⟨false, rfl, (fun h => Bool.noConfusion h), rfl⟩
          · go_ret; exact ⟨false, rfl, (fun h => Bool.noConfusion h), rfl⟩
          · exact ⟨⟨k + 1, _, by omega, by go_num, rfl, by omega, by omega, HLE.out.succ (by show (usedS k).size ≤ _; rw [HX.out]; omega)⟩, by simp [intOf]; omega⟩
        · have HLused : Hid (AllLeTo 1048576 (szAt usedS) usedn) := fun i hi => hle i (by omega)
          clear hle
          go_wp2
          go_ret
          exact ⟨true, rfl, fun _ => ⟨(by omega), (by omega), HLnames.out, (by omega), (by omega), (by omega), HLused.out⟩, rfl⟩

set_option maxHeartbeats 1000000 in
theorem zz_FnMangleLocalCSSReadableNamesMatchModel (ident : ByteArray) (namesa : Option Addr) (namesn namesc : Nat) (namesS : Nat → ByteArray) (globa : Option Addr) (globn globc : Nat) (globB : Nat → Bool) (countsa : Option Addr) (countsn countsc : Nat) (countsZ : Nat → Int) (useda : Option Addr) (usedn usedc : Nat) (usedS : Nat → ByteArray) (w : World) (hident : ident.size ≤ maxLen) (hnames : namesn ≤ maxLen) (hrnames : RowAt w namesa namesn (strAt namesS)) (hglob : globn ≤ maxLen) (hcounts : countsn ≤ maxLen) (hused : usedn ≤ maxLen) (hrused : RowAt w useda usedn (strAt usedS)) :
    Calls Tryz.prog 14 #[.string ident, .slice namesa namesn namesc, .slice globa globn globc, .slice countsa countsn countsc, .slice useda usedn usedc] w (BoolIf (ident.size ≤ 1048576 ∧ namesn ≤ 1048576 ∧ AllLeTo 1048576 (szAt namesS) namesn ∧ globn ≤ 1048576 ∧ countsn ≤ 1048576 ∧ usedn ≤ 1048576 ∧ AllLeTo 1048576 (szAt usedS) usedn) w) := by
  unfold maxLen at hident hnames hglob hcounts hused
  have Hrnames := Lib.hid hrnames
  clear hrnames
  have Hrused := Lib.hid hrused
  clear hrused
  go_enter Tryz.func14, Tryz.ntmps14
  go_wp2
  · go_ret; exact ⟨false, rfl, (fun h => Bool.noConfusion h), rfl⟩
  · go_ret; exact ⟨false, rfl, (fun h => Bool.noConfusion h), rfl⟩
  · go_ret; exact ⟨false, rfl, (fun h => Bool.noConfusion h), rfl⟩
  go_loop [11, 12] (fun z i => ∃ (k : Nat) (m : Int), k ≤ namesn ∧ i = .int .i64 k ∧ z = .int .i64 m ∧ 0 ≤ m ∧ m ≤ 1048576 ∧ AllLeTo 1048576 (szAt namesS) k) (fun _ i => namesn - (intOf i).toNat)
  case atStart => exact ⟨0, _, Nat.zero_le _, rfl, rfl, by omega, by omega, AllLeTo.zero _ _⟩
  case round =>
    obtain ⟨k, m, hk, rfl, rfl, hm0, hm1, hle⟩ := hrel
    by_cases hlt : k < namesn
    · obtain ⟨b, o, ha, _, h2⟩ := Hrnames.out.blk (by omega)
      have h3 := h2 k hlt
      clear h2
      subst ha
      have HLE := Lib.hid hle
      clear hle
      simp only [strAt] at h3
      generalize hx : namesS k = x at h3
      have HX := Lib.hid hx
      clear hx
      go_wp2
      · go_ret; exact ⟨false, rfl, (fun h => Bool.noConfusion h), rfl⟩
      · go_ret; exact ⟨false, rfl, (fun h => Bool.noConfusion h), rfl⟩
      · exact ⟨⟨k + 1, _, by omega, by go_num, rfl, by omega, by omega, HLE.out.succ (by show (namesS k).size ≤ _; rw [HX.out]; omega)⟩, by simp [intOf]; omega⟩
    · have HLnames : Hid (AllLeTo 1048576 (szAt namesS) namesn) := fun i hi => hle i (by omega)
      clear hle
      go_wp2
      · go_ret; exact ⟨false, rfl, (fun h => Bool.noConfusion h), rfl⟩
      · go_ret; exact ⟨false, rfl, (fun h => Bool.noConfusion h), rfl⟩
      · go_ret; exact ⟨false, rfl, (fun h => Bool.noConfusion h), rfl⟩
      · go_ret; exact ⟨false, rfl, (fun h => Bool.noConfusion h), rfl⟩
      · go_ret; exact ⟨false, rfl, (fun h => Bool.noConfusion h), rfl⟩
      · go_ret; exact ⟨false, rfl, (fun h => Bool.noConfusion h), rfl⟩
      go_loop [11, 13] (fun z i => ∃ (k : Nat) (m : Int), k ≤ usedn ∧ i = .int .i64 k ∧ z = .int .i64 m ∧ 0 ≤ m ∧ m ≤ 1048576 ∧ AllLeTo 1048576 (szAt usedS) k) (fun _ i => usedn - (intOf i).toNat)
      case atStart => exact ⟨0, _, Nat.zero_le _, rfl, rfl, by omega, by omega, AllLeTo.zero _ _⟩
      case round =>
        obtain ⟨k, m, hk, rfl, rfl, hm0, hm1, hle⟩ := hrel
        by_cases hlt : k < usedn
        · obtain ⟨b, o, ha, _, h2⟩ := Hrused.out.blk (by omega)
          have h3 := h2 k hlt
          clear h2
          subst ha
          have HLE := Lib.hid hle
          clear hle
          simp only [strAt] at h3
          generalize hx : usedS k = x at h3
          have HX := Lib.hid hx
          clear hx
          go_wp2
          · go_ret; exact ⟨false, rfl, (fun h => Bool.noConfusion h), rfl⟩
          · go_ret; exact ⟨false, rfl, (fun h => Bool.noConfusion h), rfl⟩
          · exact ⟨⟨k + 1, _, by omega, by go_num, rfl, by omega, by omega, HLE.out.succ (by show (usedS k).size ≤ _; rw [HX.out]; omega)⟩, by simp [intOf]; omega⟩
        · have HLused : Hid (AllLeTo 1048576 (szAt usedS) usedn) := fun i hi => hle i (by omega)
          clear hle
          go_wp2
          go_ret
          exact ⟨true, rfl, fun _ => ⟨(by omega), (by omega), HLnames.out, (by omega), (by omega), (by omega), HLused.out⟩, rfl⟩

theorem clone_strs_info : (Tryz.prog.info? 9).map (fun i => (i.zero, i.size, i.bytes)) = some (some (.string ByteArray.empty), 1, 16) := by kernel_rfl
set_option maxHeartbeats 1000000 in
theorem clone_strs (a : Option Addr) (n c : Nat) (S : Nat → ByteArray) (w : World) (hn : n ≤ 1048576) (hr : RowAt w a n (strAt S)) :
    Calls Tryz.prog 9 #[.slice a n c] w (Cloned (strAt S) n w) := by
  obtain ⟨i0, hi, hz0, hz1, hz2⟩ := info_parts clone_strs_info
  have hq := fun (wx : World) => Lib.run_eql_slice_nil (P := Tryz.prog) wx 22 9 a n c 0 0 Tryz.underlying22
  have Hr := Lib.hid hr
  clear hr
  cases a with
  | none =>
    have h0 : n = 0 := by
      rcases Nat.eq_zero_or_pos n with h | h
      · exact h
      · obtain ⟨b, o, h1, _⟩ := Hr.out h
        cases h1
    subst h0
    clear hn
    go_enter Tryz.func9, Tryz.ntmps9
    go_wp2
    go_ret
    exact ⟨_, _, rfl, by unfold maxLen; omega, RowAt.zero _ _ _, Below.refl _ _⟩
  | some a =>
    go_enter Tryz.func9, Tryz.ntmps9
    go_wp2_with (refine wpList_make_full _ rfl _ _ 22 rfl w.heap.size 9 i0 _ 1 Tryz.underlying22 hi hz0 hz1 .i64 .i64 _ _ n rfl rfl rfl rfl ?c1 ?c2 ?c3 ?c4)
    case c1 => rw [hz2]; omega
    case c2 => unfold maxLen; omega
    case c3 => exact Nat.le_refl _
    case c4 =>
      intro w1 hown hg
      rw [madeCells_list1 _ _ rfl, ← mixRow_zero ((List.range n).map (strAt S))] at hown
      have hb0 : Below w.heap.size w w1 := (Below.refl _ _).grown hg (Nat.le_refl _) (fun k h => by cases h)
      have hsz := hb0.size
      go_wp2
      go_loopw [4] (fun i wr => ∃ k : Nat, k ≤ n ∧ i = .int .i64 k ∧ wr.ownsRow w.heap.size 9 1 (.slice (some ⟨w.heap.size, 0, none⟩) n n) n (mixRow ((List.range n).map (strAt S)) (.string ByteArray.empty) n k) ∧ Below w.heap.size w wr) (fun i _ => n - (intOf i).toNat)
      case atStart => exact ⟨0, Nat.zero_le _, rfl, hown, hb0⟩
      case round =>
        obtain ⟨k, hk, rfl, hown, hb⟩ := hrel
        by_cases hlt : k < n
        · obtain ⟨b, o, ha, hbl, h2⟩ := Hr.out.blk (by omega)
          have h3 := (hb.cell (p := ⟨b, o + k, none⟩) hbl).trans (h2 k hlt)
          clear h2
          simp only [Option.some.injEq] at ha
          subst ha
          have h4 := (hown.cellAt k (by omega)).trans (mixRow_at _ _ _ _ hlt (by simp))
          have h5 := hown.frozenAt k
          have hst := hown.stored k ((strAt S) k)
          rw [mixRow_set _ (.string ByteArray.empty) ((strAt S) k) n k hlt (by simp) (range_map_at _ _ _ hlt)] at hst
          have HS := Lib.hid hst
          clear hst
          go_wp2
          exact ⟨⟨k + 1, by omega, by go_num, HS.out.1, hb.setCell (by simp) _⟩, by simp [intOf]; omega⟩
        · go_wp2
          go_ret
          obtain rfl : k = n := by omega
          rw [mixRow_full _ _ _ (by simp)] at hown
          exact ⟨_, _, rfl, by unfold maxLen; omega, fun h0 => ⟨_, 0, rfl, fun i hi => by rw [Nat.zero_add, hown.cellAt i (by omega), range_map_at _ _ _ hi]⟩, hb⟩

theorem clone_bools_info : (Tryz.prog.info? 4).map (fun i => (i.zero, i.size, i.bytes)) = some (some (.bool false), 1, 1) := by kernel_rfl
set_option maxHeartbeats 1000000 in
theorem clone_bools (a : Option Addr) (n c : Nat) (B : Nat → Bool) (w : World) (hn : n ≤ 1048576) (hr : RowAt w a n (boolAt B)) :
    Calls Tryz.prog 10 #[.slice a n c] w (Cloned (boolAt B) n w) := by
  obtain ⟨i0, hi, hz0, hz1, hz2⟩ := info_parts clone_bools_info
  have hq := fun (wx : World) => Lib.run_eql_slice_nil (P := Tryz.prog) wx 23 4 a n c 0 0 Tryz.underlying23
  have Hr := Lib.hid hr
  clear hr
  cases a with
  | none =>
    have h0 : n = 0 := by
      rcases Nat.eq_zero_or_pos n with h | h
      · exact h
      · obtain ⟨b, o, h1, _⟩ := Hr.out h
        cases h1
    subst h0
    clear hn
    go_enter Tryz.func10, Tryz.ntmps10
    go_wp2
    go_ret
    exact ⟨_, _, rfl, by unfold maxLen; omega, RowAt.zero _ _ _, Below.refl _ _⟩
  | some a =>
    go_enter Tryz.func10, Tryz.ntmps10
    go_wp2_with (refine wpList_make_full _ rfl _ _ 23 rfl w.heap.size 4 i0 _ 1 Tryz.underlying23 hi hz0 hz1 .i64 .i64 _ _ n rfl rfl rfl rfl ?c1 ?c2 ?c3 ?c4)
    case c1 => rw [hz2]; omega
    case c2 => unfold maxLen; omega
    case c3 => exact Nat.le_refl _
    case c4 =>
      intro w1 hown hg
      rw [madeCells_list1 _ _ rfl, ← mixRow_zero ((List.range n).map (boolAt B))] at hown
      have hb0 : Below w.heap.size w w1 := (Below.refl _ _).grown hg (Nat.le_refl _) (fun k h => by cases h)
      have hsz := hb0.size
      go_wp2
      go_loopw [4] (fun i wr => ∃ k : Nat, k ≤ n ∧ i = .int .i64 k ∧ wr.ownsRow w.heap.size 4 1 (.slice (some ⟨w.heap.size, 0, none⟩) n n) n (mixRow ((List.range n).map (boolAt B)) (.bool false) n k) ∧ Below w.heap.size w wr) (fun i _ => n - (intOf i).toNat)
      case atStart => exact ⟨0, Nat.zero_le _, rfl, hown, hb0⟩
      case round =>
        obtain ⟨k, hk, rfl, hown, hb⟩ := hrel
        by_cases hlt : k < n
        · obtain ⟨b, o, ha, hbl, h2⟩ := Hr.out.blk (by omega)
          have h3 := (hb.cell (p := ⟨b, o + k, none⟩) hbl).trans (h2 k hlt)
          clear h2
          simp only [Option.some.injEq] at ha
          subst ha
          have h4 := (hown.cellAt k (by omega)).trans (mixRow_at _ _ _ _ hlt (by simp))
          have h5 := hown.frozenAt k
          have hst := hown.stored k ((boolAt B) k)
          rw [mixRow_set _ (.bool false) ((boolAt B) k) n k hlt (by simp) (range_map_at _ _ _ hlt)] at hst
          have HS := Lib.hid hst
          clear hst
          go_wp2
          exact ⟨⟨k + 1, by omega, by go_num, HS.out.1, hb.setCell (by simp) _⟩, by simp [intOf]; omega⟩
        · go_wp2
          go_ret
          obtain rfl : k = n := by omega
          rw [mixRow_full _ _ _ (by simp)] at hown
          exact ⟨_, _, rfl, by unfold maxLen; omega, fun h0 => ⟨_, 0, rfl, fun i hi => by rw [Nat.zero_add, hown.cellAt i (by omega), range_map_at _ _ _ hi]⟩, hb⟩

theorem clone_u32_info : (Tryz.prog.info? 34).map (fun i => (i.zero, i.size, i.bytes)) = some (some (.int .u32 0), 1, 4) := by kernel_rfl
set_option maxHeartbeats 1000000 in
theorem clone_u32 (a : Option Addr) (n c : Nat) (Z : Nat → Int) (w : World) (hn : n ≤ 1048576) (hr : RowAt w a n (intAt .u32 Z)) :
    Calls Tryz.prog 11 #[.slice a n c] w (Cloned (intAt .u32 Z) n w) := by
  obtain ⟨i0, hi, hz0, hz1, hz2⟩ := info_parts clone_u32_info
  have hq := fun (wx : World) => Lib.run_eql_slice_nil (P := Tryz.prog) wx 24 34 a n c 0 0 Tryz.underlying24
  have Hr := Lib.hid hr
  clear hr
  cases a with
  | none =>
    have h0 : n = 0 := by
      rcases Nat.eq_zero_or_pos n with h | h
      · exact h
      · obtain ⟨b, o, h1, _⟩ := Hr.out h
        cases h1
    subst h0
    clear hn
    go_enter Tryz.func11, Tryz.ntmps11
    go_wp2
    go_ret
    exact ⟨_, _, rfl, by unfold maxLen; omega, RowAt.zero _ _ _, Below.refl _ _⟩
  | some a =>
    go_enter Tryz.func11, Tryz.ntmps11
    go_wp2_with (refine wpList_make_full _ rfl _ _ 24 rfl w.heap.size 34 i0 _ 1 Tryz.underlying24 hi hz0 hz1 .i64 .i64 _ _ n rfl rfl rfl rfl ?c1 ?c2 ?c3 ?c4)
    case c1 => rw [hz2]; omega
    case c2 => unfold maxLen; omega
    case c3 => exact Nat.le_refl _
    case c4 =>
      intro w1 hown hg
      rw [madeCells_list1 _ _ rfl, ← mixRow_zero ((List.range n).map (intAt .u32 Z))] at hown
      have hb0 : Below w.heap.size w w1 := (Below.refl _ _).grown hg (Nat.le_refl _) (fun k h => by cases h)
      have hsz := hb0.size
      go_wp2
      go_loopw [4] (fun i wr => ∃ k : Nat, k ≤ n ∧ i = .int .i64 k ∧ wr.ownsRow w.heap.size 34 1 (.slice (some ⟨w.heap.size, 0, none⟩) n n) n (mixRow ((List.range n).map (intAt .u32 Z)) (.int .u32 0) n k) ∧ Below w.heap.size w wr) (fun i _ => n - (intOf i).toNat)
      case atStart => exact ⟨0, Nat.zero_le _, rfl, hown, hb0⟩
      case round =>
        obtain ⟨k, hk, rfl, hown, hb⟩ := hrel
        by_cases hlt : k < n
        · obtain ⟨b, o, ha, hbl, h2⟩ := Hr.out.blk (by omega)
          have h3 := (hb.cell (p := ⟨b, o + k, none⟩) hbl).trans (h2 k hlt)
          clear h2
          simp only [Option.some.injEq] at ha
          subst ha
          have h4 := (hown.cellAt k (by omega)).trans (mixRow_at _ _ _ _ hlt (by simp))
          have h5 := hown.frozenAt k
          have hst := hown.stored k ((intAt .u32 Z) k)
          rw [mixRow_set _ (.int .u32 0) ((intAt .u32 Z) k) n k hlt (by simp) (range_map_at _ _ _ hlt)] at hst
          have HS := Lib.hid hst
          clear hst
          go_wp2
          exact ⟨⟨k + 1, by omega, by go_num, HS.out.1, hb.setCell (by simp) _⟩, by simp [intOf]; omega⟩
        · go_wp2
          go_ret
          obtain rfl : k = n := by omega
          rw [mixRow_full _ _ _ (by simp)] at hown
          exact ⟨_, _, rfl, by unfold maxLen; omega, fun h0 => ⟨_, 0, rfl, fun i hi => by rw [Nat.zero_add, hown.cellAt i (by omega), range_map_at _ _ _ hi]⟩, hb⟩
end Go.Proofs.YtokehapgddicjaaGreatFmt
