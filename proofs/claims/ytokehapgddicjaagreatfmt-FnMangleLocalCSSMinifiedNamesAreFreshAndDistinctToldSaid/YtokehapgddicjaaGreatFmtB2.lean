/- The builder of strings; NumberToMinifiedName. -/
import Derived.Test.YtokehapgddicjaaGreatFmtZ1
import Derived.Test.YtokehapgddicjaaGreatFmtMn
import Derived.Test.YtokehapgddicjaaGreatFmtShelf
import Derived.Laws.Externs
import Derived.Lib.Builder
import Derived.Lib.AppendStr
namespace Go.Proofs.YtokehapgddicjaaGreatFmt
open Go.RowKit
set_option linter.unusedVariables false
set_option linter.unusedSimpArgs false
theorem byte_info : (Tryz.prog.info? 5).map (fun i => (i.zero, i.size, i.bytes)) = some (some (.int .u8 0), 1, 1) := by kernel_rfl
theorem builder_size : (Tryz.prog.info? 232).map (·.size) = some 2 := by kernel_rfl
theorem builder_lies : liesAt Tryz.prog Tryz.prog.depth 232 (2 / Tryz.prog.cellsOf 232) 0 232 1 = true := by kernel_rfl
set_option maxRecDepth 100000 in
set_option maxHeartbeats 1000000 in
theorem copyCheck_used (b : Nat) (w : World) (h0 : w.cell? ⟨b, 0, none⟩ = some (.pointer (some ⟨b, 0, none⟩))) :
    Calls Tryz.prog 55 #[.pointer (some ⟨b, 0, none⟩)] w (fun e w' => e = .returned (.tuple #[]) ∧ w' = w) := by
  obtain ⟨j, hj, _⟩ := Option.map_eq_some_iff.1 builder_size
  go_enter Tryz.func55, Tryz.ntmps55
  go_wp2_with fail
  rw [Lib.run_neq_ptr_same w _ Tryz.underlying230 hj]
  go_wp2_with fail
  go_end0
  exact ⟨rfl, rfl⟩
set_option maxRecDepth 100000 in
set_option maxHeartbeats 1000000 in
theorem copyCheck_fresh (b : Nat) (w : World) (h0 : w.cell? ⟨b, 0, none⟩ = some (.pointer none)) (hsh : w.shape? b = some (232, 2)) (hfz : w.frozen? ⟨b, 0, none⟩ = false) :
    Calls Tryz.prog 55 #[.pointer (some ⟨b, 0, none⟩)] w (fun e w' => e = .returned (.tuple #[]) ∧ w' = w.setCell ⟨b, 0, none⟩ (.pointer (some ⟨b, 0, none⟩))) := by
  obtain ⟨j, hj, hjs⟩ := Option.map_eq_some_iff.1 builder_size
  go_enter Tryz.func55, Tryz.ntmps55
  go_wp2_with fail
  rw [Lib.run_to_unsafe w ⟨b, 0, none⟩ Tryz.underlying230 Tryz.underlying256 hj (by rw [hjs]; decide) hsh (Nat.zero_lt_succ 1)]
  simp only [Result.andThen]
  rw [Oper.upon_value]
  go_wp2_with fail
  rw [run_callFunc_extern Tryz.func70 (by kernel_rfl) (by kernel_rfl) (by kernel_rfl) (e := Extern.AbiNoEscape.same) (by kernel_rfl)]
  rw [Lib.run_noEscape]
  simp only [Result.andThen]
  rw [Oper.upon_value]
  go_wp2_with fail
  rw [Lib.run_from_unsafe w ⟨b, 0, none⟩ Tryz.underlying256 Tryz.underlying230 hj hsh builder_lies]
  simp only [Result.andThen]
  rw [Oper.upon_value]
  go_wp2_with fail
  go_end0
  exact ⟨rfl, rfl⟩
theorem copyCheck_any (B b : Nat) (bs : List Value) (w : World) (h : Lib.IsBuilder 232 5 B b bs w) :
    Calls Tryz.prog 55 #[.pointer (some ⟨b, 0, none⟩)] w (fun e w' => e = .returned (.tuple #[]) ∧ (Lib.BuilderAt 232 5 B b (.pointer (some ⟨b, 0, none⟩)) bs w' ∧ Below B w w')) := by
  rcases h with h | h
  · refine (copyCheck_fresh b w h.cell0 h.shape h.frozen0).mono ?_
    rintro e w' ⟨rfl, rfl⟩
    exact ⟨rfl, h.used _, (Below.refl B w).setCell (p := ⟨b, 0, none⟩) h.1 _⟩
  · refine (copyCheck_used b w h.cell0).mono ?_
    rintro e w' ⟨rfl, rfl⟩
    exact ⟨rfl, h, Below.refl B _⟩
set_option maxRecDepth 100000 in
set_option maxHeartbeats 1000000 in
theorem writeString_any (B b : Nat) (bs : List Value) (s : ByteArray) (w : World) (h : Lib.IsBuilder 232 5 B b bs w) (hlen : bs.length + s.size ≤ 140737488355328) (hBw : B ≤ w.heap.size) :
    Calls Tryz.prog 40 #[.pointer (some ⟨b, 0, none⟩), .string s] w (fun e w' => e = .returned (.tuple #[.int .i64 s.size, .nilIface]) ∧ Lib.IsBuilder 232 5 B b (bs ++ Lib.strCells s) w' ∧ Below B w w') := by
  obtain ⟨i0, hi, hz0, hz1, hz2⟩ := info_parts byte_info
  go_enter Tryz.func40, Tryz.ntmps40
  go_wp2_with (go_at_call 55; refine (copyCheck_any B b bs _ h).mono ?_)
  rintro e w1 ⟨rfl, h1, hb1⟩
  obtain ⟨hB, v, hbk, hown, hne⟩ := h1
  have c0 : w1.cell? ⟨b, 0, none⟩ = some (.pointer (some ⟨b, 0, none⟩)) := by rw [Lib.cell_of_heap hbk]; rfl
  have c1 : w1.cell? ⟨b, 1, none⟩ = some v := by rw [Lib.cell_of_heap hbk]; rfl
  go_wp2_with (at_builtin; refine Lib.wpList_append_own_string _ rfl _ _ 92 9 rfl B 5 i0 Tryz.underlying92 Tryz.underlying9 hi hz0 hz1 hz2 _ _ _ rfl hown s rfl ?c3 ?c4 ?c5 ?_)
  case c3 => unfold maxLen; omega
  case c4 => omega
  case c5 => have := hb1.size; omega
  intro v' w2 hown' hgrow _
  have hlt : b < w1.heap.size := by
    rcases Nat.lt_or_ge b w1.heap.size with h' | h'
    · exact h'
    · simp [Array.getElem?_eq_none h'] at hbk
  have hb2 : w2.heap[b]? = some (.cells #[.pointer (some ⟨b, 0, none⟩), v] 232 (0, 0)) := by
    rw [hgrow.block b hlt (fun e => hne e.symm)]
    exact hbk
  have d0 : w2.cell? ⟨b, 0, none⟩ = some (.pointer (some ⟨b, 0, none⟩)) := by rw [Lib.cell_of_heap hb2]; rfl
  have d1 : w2.cell? ⟨b, 1, none⟩ = some v := by rw [Lib.cell_of_heap hb2]; rfl
  have f1 : w2.frozen? ⟨b, 1, none⟩ = false := Lib.frozen_of_heap hb2 1
  obtain ⟨ao, n', cap, rfl⟩ : ∃ ao n' cap, v' = .slice ao n' cap := by
    rcases hown'.2 with ⟨hv, _⟩ | ⟨g, cap, cur, hv, _⟩
    · exact ⟨_, _, _, hv⟩
    · exact ⟨_, _, _, hv⟩
  go_wp2_with fail
  go_ret2
  refine ⟨rfl, ?_, ?_⟩
  · exact Or.inr (Lib.BuilderAt.put (T := 232) (e := 5) hB hb2 (bs' := bs ++ Lib.strCells s) (by simpa [Lib.strCells_length] using hown') (by decide))
  · exact (hb1.grown hgrow (by have := hb1.size; omega) (fun k hk => (hown.lt k hk).1)).setCell (p := ⟨b, 1, none⟩) hB _
/-- The name of number i, as a string. -/
def mnameB (h t : ByteArray) (i : Nat) : ByteArray := ⟨(mname h.data.toList t.data.toList i).toArray⟩
theorem byteCells_append (l m : List UInt8) : Lib.byteCells (l ++ m) = Lib.byteCells l ++ Lib.byteCells m := by simp [Lib.byteCells]
theorem one_letter (s : ByteArray) (j : Nat) (hj : j < s.size) : Lib.strCells (s.extract j (j + 1)) = Lib.byteCells [s.data.toList.getD j 0] := by
  have hj' : j < s.data.toList.length := by simpa using hj
  have e1 : (s.extract j (j + 1)).data.toList = [s.data.toList.getD j 0] := by
    rw [List.getD_eq_getElem?_getD, List.getElem?_eq_getElem hj']
    rw [show (s.extract j (j + 1)).data = s.data.extract j (j + 1) by cases s; simp [ByteArray.extract_mk]]
    rw [Array.toList_extract]
    simp [List.extract, List.drop_eq_getElem_cons hj']
  unfold Lib.strCells Lib.byteCells
  rw [e1]
theorem builder_new (B : Nat) (w : World) (hB : B ≤ w.heap.size) : Lib.IsBuilder 232 5 B w.heap.size (Lib.byteCells []) (w.alloc (.cells #[.pointer none, .slice none 0 0] 232)) :=
  Or.inl ⟨hB, .slice none 0 0, heap_alloc_new w _, ⟨rfl, Or.inl ⟨rfl, rfl⟩⟩, by simp [Value.ownBlock]⟩
set_option maxRecDepth 100000 in
set_option maxHeartbeats 1000000 in
theorem number_any (h t : ByteArray) (i : Nat) (w : World) (h0 : 0 < h.size) (t0 : 0 < t.size) (h1 : h.size ≤ 1048576) (t1 : t.size ≤ 1048576) (hi : i ≤ 1099511627776) :
    Calls Tryz.prog 31 #[.agg #[.string h, .string t], .int .i64 i] w (fun e w' => e = .returned (.string (mnameB h t i)) ∧ Below w.heap.size w w') := by
  have q1 : (0 : Int) < h.size := by omega
  have q2 : (0 : Int) < t.size := by omega
  have q3 : ¬ (h.size : Int) = 0 := by omega
  have q4 : ¬ (t.size : Int) = 0 := by omega
  obtain ⟨j, hj⟩ : ∃ j : Nat, j = i % h.size := ⟨_, rfl⟩
  have jl : j < h.size := by rw [hj]; exact Nat.mod_lt _ h0
  have j0 : ((i : Int) % (h.size : Int)) = (j : Int) := by rw [hj]; exact (Int.natCast_emod i h.size).symm
  have j1 : (j : Int) + 1 ≤ h.size := by omega
  have j2 : (j : Int) ≤ (j : Int) + 1 := by omega
  have HJ := Lib.hid hj
  clear hj
  go_enter Tryz.func31, Tryz.ntmps31
  have hN := builder_new (w.heap.size + 1) (w.alloc (.cells #[.string h, .string t] 201)) (by simp)
  rw [show (w.alloc (.cells #[.string h, .string t] 201)).heap.size = w.heap.size + 1 by simp] at hN
  have HN := Lib.hid hN
  clear hN
  go_wp2_with (go_at_call 40; refine (writeString_any (w.heap.size + 1) (w.heap.size + 1) _ _ _ HN.out (by rw [Lib.byteCells_length]; simp; omega) (by simp)).mono ?_)
  rintro e w2 ⟨rfl, hb2, hbel2⟩
  have ct : w2.cell? ⟨w.heap.size, 1, none⟩ = some (.string t) := by
    rw [hbel2.cell (p := ⟨w.heap.size, 1, none⟩) (Nat.lt_succ_self _)]
    rw [((Below.refl (w.heap.size + 1) (w.alloc (.cells #[.string h, .string t] 201))).alloc (by simp) (.cells #[.pointer none, .slice none 0 0] 232)).cell (p := ⟨w.heap.size, 1, none⟩) (Nat.lt_succ_self _)]
    exact cell_of_row _ _ 1 _ _ _ (heap_alloc_new w (.cells #[.string h, .string t] 201))
  rw [one_letter h j jl] at hb2
  have hbel : Below w.heap.size w w2 := (((Below.refl _ _).alloc (Nat.le_refl _) _).alloc (by simp) _).trans (hbel2.mono (Nat.le_succ _))
  have HB := Lib.hid (show Lib.IsBuilder 232 5 (w.heap.size + 1) (w.heap.size + 1) (Lib.byteCells [h.data.toList.getD j 0]) w2 ∧ Below w.heap.size w w2 ∧ w.heap.size + 1 ≤ w2.heap.size from ⟨hb2, hbel, by have := hbel2.size; simp at this; omega⟩)
  clear hb2 hbel hbel2
  obtain ⟨i1, hi1⟩ : ∃ i1 : Nat, i1 = i / h.size := ⟨_, rfl⟩
  have d0 : ((i : Int) / (h.size : Int)) = (i1 : Int) := by rw [hi1]; exact (Int.natCast_ediv i h.size).symm
  have HI := Lib.hid (show [h.data.toList.getD j 0] ++ mtail t.data.toList i1 = mname h.data.toList t.data.toList i from by
    rw [HJ.out, hi1]
    rfl)
  have hle : i1 ≤ i := by rw [hi1]; exact Nat.div_le_self _ _
  clear hi1
  go_wp2_with fail
  go_loopw [1] (fun iv wr => ∃ (k : Nat) (l : List UInt8), iv = .int .i64 k ∧ l.length + k ≤ i + 1 ∧ wr.cell? ⟨w.heap.size, 1, none⟩ = some (.string t) ∧ Hid (Lib.IsBuilder 232 5 (w.heap.size + 1) (w.heap.size + 1) (Lib.byteCells l) wr ∧ Below w.heap.size w wr ∧ w.heap.size + 1 ≤ wr.heap.size) ∧ Hid (l ++ mtail t.data.toList k = mname h.data.toList t.data.toList i)) (fun iv _ => (intOf iv).toNat)
  case atStart => exact ⟨i1, [h.data.toList.getD j 0], rfl, by simp; omega, ct, HB, HI⟩
  case round =>
    clear HB HI ct d0 hle
    obtain ⟨k, l, rfl, hlk, ct, HB, HI⟩ := hrel
    cases k with
    | zero =>
      have hl := HI.out
      rw [mtail_zero, List.append_nil] at hl
      have HL := Lib.hid hl
      clear hl
      go_wp2_with (go_at_call 41; refine (Tryz.Builder_String_any (w.heap.size + 1) (w.heap.size + 1) l _ HB.out.1 HB.out.2.2).mono ?_; rintro e w4 ⟨rfl, hb4⟩)
      go_ret
      exact ⟨by rw [HL.out]; rfl, HB.out.2.1.trans (hb4.mono (Nat.le_succ _))⟩
    | succ q =>
      obtain ⟨jj, hjj⟩ : ∃ jj : Nat, jj = q % t.size := ⟨_, rfl⟩
      have kl : jj < t.size := by rw [hjj]; exact Nat.mod_lt _ t0
      have k0 : ((q : Int) % (t.size : Int)) = (jj : Int) := by rw [hjj]; exact (Int.natCast_emod q t.size).symm
      have k1 : (jj : Int) + 1 ≤ t.size := by omega
      have k2 : (jj : Int) ≤ (jj : Int) + 1 := by omega
      obtain ⟨q1, hq1⟩ : ∃ q1 : Nat, q1 = q / t.size := ⟨_, rfl⟩
      have d1 : ((q : Int) / (t.size : Int)) = (q1 : Int) := by rw [hq1]; exact (Int.natCast_ediv q t.size).symm
      have hle2 : q1 ≤ q := by rw [hq1]; exact Nat.div_le_self _ _
      have HK := Lib.hid (show mtail t.data.toList (q + 1) = t.data.toList.getD jj 0 :: mtail t.data.toList q1 from by
        rw [mtail_succ, hjj, hq1]
        rfl)
      clear hjj hq1
      go_wp2_with (go_at_call 40; refine (writeString_any (w.heap.size + 1) (w.heap.size + 1) _ _ _ HB.out.1 (by rw [Lib.byteCells_length]; simp; omega) HB.out.2.2).mono ?_)
      rintro e w3 ⟨rfl, hb3, hbel3⟩
      have ct3 : w3.cell? ⟨w.heap.size, 1, none⟩ = some (.string t) := (hbel3.cell (p := ⟨w.heap.size, 1, none⟩) (Nat.lt_succ_self _)).trans ct
      rw [one_letter t jj kl, ← byteCells_append] at hb3
      have HB3 := Lib.hid (show Lib.IsBuilder 232 5 (w.heap.size + 1) (w.heap.size + 1) (Lib.byteCells (l ++ [t.data.toList.getD jj 0])) w3 ∧ Below w.heap.size w w3 ∧ w.heap.size + 1 ≤ w3.heap.size from ⟨hb3, HB.out.2.1.trans (hbel3.mono (Nat.le_succ _)), Nat.le_trans HB.out.2.2 hbel3.size⟩)
      clear hb3 hbel3
      go_wp2_with fail
      go_roundw
      case rel => exact ⟨q1, l ++ [t.data.toList.getD jj 0], rfl, by simp; omega, ct3, HB3, (show _ = _ from by rw [← HI.out, HK.out]; simp)⟩
      case measure => simp [intOf]; omega
end Go.Proofs.YtokehapgddicjaaGreatFmt
