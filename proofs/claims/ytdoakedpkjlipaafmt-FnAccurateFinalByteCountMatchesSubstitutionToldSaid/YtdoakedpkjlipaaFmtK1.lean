/- The clones by append (printed by genK1.py). -/
import Derived.Test.YtdoakedpkjlipaaFmtJ6
namespace Go.Proofs.YtdoakedpkjlipaaFmt
open Go.RowKit
set_option linter.unusedVariables false
theorem row_news {w w1 : World} {a : Addr} {n : Nat} {f : Nat → Value} (h : RowAt w (some a) n f) (hb : Below w.heap.size w w1) : ∀ j u, ((List.range n).map f)[j]? = some u → w1.cell? (a.add j) = some u := by
  intro j u hu
  have hj : j < n := by
    have := (List.getElem?_eq_some_iff.1 hu).1
    simpa using this
  obtain ⟨b, o, h1, hbl, h2⟩ := h.blk (by omega)
  have h1' : a = ⟨b, o, none⟩ := Option.some.inj h1
  subst h1'
  rw [range_map_at f n j hj] at hu
  rw [← hu]
  have h3 := (hb.cell (p := ⟨b, o + j, none⟩) hbl).trans (h2 j hj)
  by_cases h0 : j = 0
  · subst h0
    simpa [Addr.add] using h3
  · simpa [Addr.add, h0] using h3
theorem row_made {w : World} {base g n c : Nat} {e : TypeId} {f : Nat → Value} (h : w.ownsRow base e 1 (.slice (some ⟨g, 0, none⟩) (0 + n) c) (0 + n) ([] ++ (List.range n).map f)) : RowAt w (some ⟨g, 0, none⟩) n f := fun h0 =>
  ⟨g, 0, rfl, fun i hi => by rw [Nat.zero_add, h.cellAt i (by omega)]; exact range_map_at _ _ _ (by omega)⟩
theorem clone_strs_info : (Tryf.prog.info? 9).map (fun i => (i.zero, i.size, i.bytes)) = some (some (.string ByteArray.empty), 1, 16) := by kernel_rfl
set_option maxRecDepth 100000 in
set_option maxHeartbeats 400000 in
theorem clone_strs (a : Option Addr) (n c : Nat) (S : Nat → ByteArray) (w : World) (hn : n ≤ 1048576) (hr : RowAt w a n (strAt S)) :
    Calls Tryf.prog 7 #[.slice a n c] w (Cloned (strAt S) n w) := by
  obtain ⟨i0, hi, hz0, hz1, hz2⟩ := info_parts clone_strs_info
  have hq := fun (wx : World) => Lib.run_eql_slice_nil (P := Tryf.prog) wx 22 9 a n c 0 0 Tryf.underlying22
  have Hr := Lib.hid hr
  clear hr
  cases a with
  | none =>
    have h0 : n = 0 := by
      rcases Nat.eq_zero_or_pos n with h | h
      · exact h
      · obtain ⟨b, o, h1, _⟩ := Hr.out h
        cases h1
    subst h0
    clear hn
    go_enter Tryf.func7, Tryf.ntmps7
    go_wp2
    go_ret
    exact ⟨_, _, rfl, by unfold maxLen; omega, RowAt.zero _ _ _, Below.refl _ _⟩
  | some a =>
    go_enter Tryf.func7, Tryf.ntmps7
    go_wp2_with (first
      | (at_make; refine wpList_make_own _ rfl _ _ 22 rfl w.heap.size 9 i0 _ 1 Tryf.underlying22 hi hz0 hz1 .i64 .i64 _ n rfl rfl (by rfl) (by rw [hz2]; omega) (by unfold maxLen; omega) (Nat.le_refl _) ?_; intro w1 hown hg; have HO := Lib.hid hown; have HB := Lib.hid ((Below.refl _ _).grown hg (Nat.le_refl _) (fun k h => by cases h) : Below w.heap.size w w1); clear hown hg)
      | (at_builtin; refine wpList_append_fits _ rfl (.tmp 7) (.tmp 8) 22 rfl w.heap.size 9 i0 1 Tryf.underlying22 hi hz1 w.heap.size 0 n [] rfl HO.out a n c ((List.range n).map (strAt S)) rfl (by simp) (row_news (Hr.out) HB.out) (by intro u hu; obtain ⟨i, _, rfl⟩ := List.mem_map.1 hu; rfl) (by omega) ?_; intro w2 hown2 hg2; have HO2 := Lib.hid hown2; have HB2 := Lib.hid (HB.out.grown hg2 HB.out.size (fun k h => by have := Option.some.inj h; omega)); clear hown2 hg2))
    go_ret
    exact ⟨_, _, rfl, by unfold maxLen; omega, row_made HO2.out, HB2.out⟩
theorem clone_u32_info : (Tryf.prog.info? 38).map (fun i => (i.zero, i.size, i.bytes)) = some (some (.int .u32 0), 1, 4) := by kernel_rfl
set_option maxRecDepth 100000 in
set_option maxHeartbeats 400000 in
theorem clone_u32 (a : Option Addr) (n c : Nat) (Z : Nat → Int) (w : World) (hn : n ≤ 1048576) (hr : RowAt w a n (intAt .u32 Z)) :
    Calls Tryf.prog 9 #[.slice a n c] w (Cloned (intAt .u32 Z) n w) := by
  obtain ⟨i0, hi, hz0, hz1, hz2⟩ := info_parts clone_u32_info
  have hq := fun (wx : World) => Lib.run_eql_slice_nil (P := Tryf.prog) wx 24 38 a n c 0 0 Tryf.underlying24
  have Hr := Lib.hid hr
  clear hr
  cases a with
  | none =>
    have h0 : n = 0 := by
      rcases Nat.eq_zero_or_pos n with h | h
      · exact h
      · obtain ⟨b, o, h1, _⟩ := Hr.out h
        cases h1
    subst h0
    clear hn
    go_enter Tryf.func9, Tryf.ntmps9
    go_wp2
    go_ret
    exact ⟨_, _, rfl, by unfold maxLen; omega, RowAt.zero _ _ _, Below.refl _ _⟩
  | some a =>
    go_enter Tryf.func9, Tryf.ntmps9
    go_wp2_with (first
      | (at_make; refine wpList_make_own _ rfl _ _ 24 rfl w.heap.size 38 i0 _ 1 Tryf.underlying24 hi hz0 hz1 .i64 .i64 _ n rfl rfl (by rfl) (by rw [hz2]; omega) (by unfold maxLen; omega) (Nat.le_refl _) ?_; intro w1 hown hg; have HO := Lib.hid hown; have HB := Lib.hid ((Below.refl _ _).grown hg (Nat.le_refl _) (fun k h => by cases h) : Below w.heap.size w w1); clear hown hg)
      | (at_builtin; refine wpList_append_fits _ rfl (.tmp 7) (.tmp 8) 24 rfl w.heap.size 38 i0 1 Tryf.underlying24 hi hz1 w.heap.size 0 n [] rfl HO.out a n c ((List.range n).map (intAt .u32 Z)) rfl (by simp) (row_news (Hr.out) HB.out) (by intro u hu; obtain ⟨i, _, rfl⟩ := List.mem_map.1 hu; rfl) (by omega) ?_; intro w2 hown2 hg2; have HO2 := Lib.hid hown2; have HB2 := Lib.hid (HB.out.grown hg2 HB.out.size (fun k h => by have := Option.some.inj h; omega)); clear hown2 hg2))
    go_ret
    exact ⟨_, _, rfl, by unfold maxLen; omega, row_made HO2.out, HB2.out⟩
theorem clone_u8_info : (Tryf.prog.info? 5).map (fun i => (i.zero, i.size, i.bytes)) = some (some (.int .u8 0), 1, 1) := by kernel_rfl
set_option maxRecDepth 100000 in
set_option maxHeartbeats 400000 in
theorem clone_u8 (a : Option Addr) (n c : Nat) (Z : Nat → Int) (w : World) (hn : n ≤ 1048576) (hr : RowAt w a n (intAt .u8 Z)) :
    Calls Tryf.prog 10 #[.slice a n c] w (Cloned (intAt .u8 Z) n w) := by
  obtain ⟨i0, hi, hz0, hz1, hz2⟩ := info_parts clone_u8_info
  have hq := fun (wx : World) => Lib.run_eql_slice_nil (P := Tryf.prog) wx 25 5 a n c 0 0 Tryf.underlying25
  have Hr := Lib.hid hr
  clear hr
  cases a with
  | none =>
    have h0 : n = 0 := by
      rcases Nat.eq_zero_or_pos n with h | h
      · exact h
      · obtain ⟨b, o, h1, _⟩ := Hr.out h
        cases h1
    subst h0
    clear hn
    go_enter Tryf.func10, Tryf.ntmps10
    go_wp2
    go_ret
    exact ⟨_, _, rfl, by unfold maxLen; omega, RowAt.zero _ _ _, Below.refl _ _⟩
  | some a =>
    go_enter Tryf.func10, Tryf.ntmps10
    go_wp2_with (first
      | (at_make; refine wpList_make_own _ rfl _ _ 25 rfl w.heap.size 5 i0 _ 1 Tryf.underlying25 hi hz0 hz1 .i64 .i64 _ n rfl rfl (by rfl) (by rw [hz2]; omega) (by unfold maxLen; omega) (Nat.le_refl _) ?_; intro w1 hown hg; have HO := Lib.hid hown; have HB := Lib.hid ((Below.refl _ _).grown hg (Nat.le_refl _) (fun k h => by cases h) : Below w.heap.size w w1); clear hown hg)
      | (at_builtin; refine wpList_append_fits _ rfl (.tmp 7) (.tmp 8) 25 rfl w.heap.size 5 i0 1 Tryf.underlying25 hi hz1 w.heap.size 0 n [] rfl HO.out a n c ((List.range n).map (intAt .u8 Z)) rfl (by simp) (row_news (Hr.out) HB.out) (by intro u hu; obtain ⟨i, _, rfl⟩ := List.mem_map.1 hu; rfl) (by omega) ?_; intro w2 hown2 hg2; have HO2 := Lib.hid hown2; have HB2 := Lib.hid (HB.out.grown hg2 HB.out.size (fun k h => by have := Option.some.inj h; omega)); clear hown2 hg2))
    go_ret
    exact ⟨_, _, rfl, by unfold maxLen; omega, row_made HO2.out, HB2.out⟩
end Go.Proofs.YtdoakedpkjlipaaFmt
