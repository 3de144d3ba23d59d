/- makeDimensionOrPercentToken at m/100. -/
import Derived.Test.YtodlhjdogcpffaaDoorLaw3
namespace Go.Proofs.YtodlhjdogcpffaaDoor
open Go.RowKit

theorem setCell_row {w : World} {B i : Nat} {v : Value} {row : Array Value} {T : TypeId} {q : Nat × Nat} (h : w.heap[B]? = some (.cells row T q)) : (w.setCell ⟨B, i, none⟩ v).heap[B]? = some (.cells (row.setIfInBounds i v) T q) := by
  rw [setCell_eq_setRow _ _ _ _ _ _ _ h]
  exact setRow_heap _ _ _ _ _ _ h
abbrev tokU (k : Int) (s : ByteArray) (loc o : Int) : Value := .agg #[.pointer none, .string s, .int .i32 loc, .int .u32 0, .int .u16 o, .int .u8 k, .int .u8 0]
theorem Struck.size {s r : ByteArray} (h : Struck s r) : r.size ≤ s.size := by
  obtain ⟨n, _, _, ⟨h, _, rfl⟩ | ⟨h, _, rfl⟩⟩ := h <;> rw [ByteArray.size_extract] <;> omega

set_option maxRecDepth 100000 in
set_option maxHeartbeats 4000000 in
theorem md_percent (loc : Int) (v : Nat) (T unit : ByteArray) (w : World) (hT : T.size ≤ 1000) (hu : unit.size ≤ 4096) (hne : (unit.toList == [37]) = true)
    (h : ∀ wx, Below w.heap.size w wx → Calls Tryd.prog 15 #[.agg #[.float .f64 v], .int .i64 2] wx fun e w' => ∃ r, e = .returned (.string r) ∧ Struck T r ∧ Below wx.heap.size wx w') :
    Calls Tryd.prog 17 #[.agg #[.int .i32 loc], .agg #[.float .f64 v], .string unit] w fun e w' => ∃ r, Struck T r ∧ e = .returned (tokU 34 (r ++ unit) loc 0) ∧ Below w.heap.size w w' := by
  have HF := Lib.hid h
  clear h
  go_enter Tryd.func17, Tryd.ntmps17
  go_wp2_with fail
  refine (HF.out _ ((((Below.refl _ _).alloc (Nat.le_refl _) _).alloc (by simp) _).alloc (by simp; omega) _)).mono ?_
  rintro e w1 ⟨r, rfl, hr, hb1⟩
  have hrow : w1.heap[w.heap.size + 1 + 1]? = some (.cells #[.pointer none, .string { data := #[] }, .int .i32 loc, .int .u32 0, .int .u16 0, .int .u8 0, .int .u8 0] 36 (0, 0)) := by
    rw [hb1.block _ (by simp)]
    have e := heap_alloc_new ((w.alloc (.cells #[.int .i32 loc] 30)).alloc (.cells #[.float .f64 v] 45)) (.cells #[.pointer none, .string { data := #[] }, .int .i32 loc, .int .u32 0, .int .u16 0, .int .u8 0, .int .u8 0] 36)
    rw [show ((w.alloc (.cells #[.int .i32 loc] 30)).alloc (.cells #[.float .f64 v] 45)).heap.size = w.heap.size + 1 + 1 by simp] at e
    exact e
  have hsz := Nat.le_trans hr.size hT
  have hw16 : IntKind.u16.wrap (r.size : Int) = r.size := by rw [IntKind.wrap_u16]; omega
  have hB : Below w.heap.size w w1 := ((((Below.refl w.heap.size w).alloc (Nat.le_refl _) (.cells #[.int .i32 loc] 30)).alloc (by simp) (.cells #[.float .f64 v] 45)).alloc (by simp; omega) _).trans (hb1.mono (by simp; omega))
  have H1 := Lib.hid (And.intro hrow (And.intro hr hB))
  clear hb1 hr hrow hB
  have c1 := cell_of_row _ _ 1 _ _ _ H1.out.1
  have c4 := cell_of_row _ _ 4 _ _ _ H1.out.1
  have c5 := cell_of_row _ _ 5 _ _ _ H1.out.1
  have f1 : ∀ j, w1.frozen? ⟨w.heap.size + 1 + 1, j, none⟩ = false := fun j => by simp [World.frozen?, H1.out.1]
  simp at c1 c4 c5
  go_wp2
  have hend := (setCell_row (i := 1) (v := .string (r ++ unit)) (setCell_row (i := 5) (v := .int .u8 34) (setCell_row (i := 1) (v := .string r) H1.out.1)))
  refine bodyPost_ret (results_cell_row rfl _ _ (w.heap.size + 1 + 1) 36 _ (0, 0) _ rfl hend Tryd.underlying36 rfl (by kernel_rfl)) rfl ⟨r, H1.out.2.1, rfl, ?_⟩
  exact ((H1.out.2.2.setCell (by simp; omega) _).setCell (by simp; omega) _).setCell (by simp; omega) _

set_option maxRecDepth 100000 in
set_option maxHeartbeats 4000000 in
theorem md_dim (loc : Int) (v : Nat) (T unit : ByteArray) (w : World) (hT : T.size ≤ 1000) (hu : unit.size ≤ 4096) (hne : (unit.toList == [37]) = false)
    (h : ∀ wx, Below w.heap.size w wx → Calls Tryd.prog 15 #[.agg #[.float .f64 v], .int .i64 2] wx fun e w' => ∃ r, e = .returned (.string r) ∧ Struck T r ∧ Below wx.heap.size wx w') :
    Calls Tryd.prog 17 #[.agg #[.int .i32 loc], .agg #[.float .f64 v], .string unit] w fun e w' => ∃ r, Struck T r ∧ e = .returned (tokU 26 (r ++ unit) loc r.size) ∧ Below w.heap.size w w' := by
  have HF := Lib.hid h
  clear h
  go_enter Tryd.func17, Tryd.ntmps17
  go_wp2_with fail
  refine (HF.out _ ((((Below.refl _ _).alloc (Nat.le_refl _) _).alloc (by simp) _).alloc (by simp; omega) _)).mono ?_
  rintro e w1 ⟨r, rfl, hr, hb1⟩
  have hrow : w1.heap[w.heap.size + 1 + 1]? = some (.cells #[.pointer none, .string { data := #[] }, .int .i32 loc, .int .u32 0, .int .u16 0, .int .u8 0, .int .u8 0] 36 (0, 0)) := by
    rw [hb1.block _ (by simp)]
    have e := heap_alloc_new ((w.alloc (.cells #[.int .i32 loc] 30)).alloc (.cells #[.float .f64 v] 45)) (.cells #[.pointer none, .string { data := #[] }, .int .i32 loc, .int .u32 0, .int .u16 0, .int .u8 0, .int .u8 0] 36)
    rw [show ((w.alloc (.cells #[.int .i32 loc] 30)).alloc (.cells #[.float .f64 v] 45)).heap.size = w.heap.size + 1 + 1 by simp] at e
    exact e
  have hsz := Nat.le_trans hr.size hT
  have hw16 : IntKind.u16.wrap (r.size : Int) = r.size := by rw [IntKind.wrap_u16]; omega
  have hB : Below w.heap.size w w1 := ((((Below.refl w.heap.size w).alloc (Nat.le_refl _) (.cells #[.int .i32 loc] 30)).alloc (by simp) (.cells #[.float .f64 v] 45)).alloc (by simp; omega) _).trans (hb1.mono (by simp; omega))
  have H1 := Lib.hid (And.intro hrow (And.intro hr hB))
  clear hb1 hr hrow hB
  have c1 := cell_of_row _ _ 1 _ _ _ H1.out.1
  have c4 := cell_of_row _ _ 4 _ _ _ H1.out.1
  have c5 := cell_of_row _ _ 5 _ _ _ H1.out.1
  have f1 : ∀ j, w1.frozen? ⟨w.heap.size + 1 + 1, j, none⟩ = false := fun j => by simp [World.frozen?, H1.out.1]
  simp at c1 c4 c5
  go_wp2
  have hend := (setCell_row (i := 1) (v := .string (r ++ unit)) (setCell_row (i := 4) (v := .int .u16 r.size) (setCell_row (i := 5) (v := .int .u8 26) (setCell_row (i := 1) (v := .string r) H1.out.1))))
  refine bodyPost_ret (results_cell_row rfl _ _ (w.heap.size + 1 + 1) 36 _ (0, 0) _ rfl hend Tryd.underlying36 rfl (by kernel_rfl)) rfl ⟨r, H1.out.2.1, rfl, ?_⟩
  exact (((H1.out.2.2.setCell (by simp; omega) _).setCell (by simp; omega) _).setCell (by simp; omega) _).setCell (by simp; omega) _

/-- A token made out of a struck text. -/
def Made (T unit : ByteArray) (k loc : Int) (o : ByteArray → Int) (w : World) (e : Ending) (w' : World) : Prop := ∃ r, Struck T r ∧ e = .returned (tokU k (r ++ unit) loc (o r)) ∧ Below w.heap.size w w'

set_option maxRecDepth 100000 in
set_option maxHeartbeats 1000000 in
theorem zzmd_any (loc k : Int) (v : Nat) (T unit : ByteArray) (o : ByteArray → Int) (w : World)
    (h : ∀ wx, Below w.heap.size w wx → Calls Tryd.prog 17 #[.agg #[.int .i32 loc], .agg #[.float .f64 v], .string unit] wx (Made T unit k loc o wx)) :
    Calls Tryd.prog 11 #[.int .i32 loc, .float .f64 v, .string unit] w (Made T unit k loc o w) := by
  have HM := Lib.hid h
  clear h
  unfold Made at *
  go_enter Tryd.func11, Tryd.ntmps11
  go_wp2_with fail
  refine (newf_any v _).mono ?_
  rintro e w1 ⟨rfl, hb1⟩
  have hB : Below w.heap.size w w1 := ((Below.refl w.heap.size w).alloc (Nat.le_refl _) _).trans (hb1.mono (by simp))
  have hrow : w1.heap[w.heap.size]? = some (.cells #[.pointer none, .string { data := #[] }, .int .i32 0, .int .u32 0, .int .u16 0, .int .u8 0, .int .u8 0] 36 (0, 0)) := by
    rw [hb1.block _ (by simp)]
    exact heap_alloc_new w _
  have hlt : w.heap.size < w1.heap.size := by
    have := hb1.size
    simp at this
    omega
  have H1 := Lib.hid (And.intro hrow (And.intro hlt hB))
  clear hb1 hrow hlt hB
  go_wp2_with fail
  refine (HM.out w1 H1.out.2.2).mono ?_
  rintro e w2 ⟨r, hr, rfl, hb2⟩
  have hrow : w2.heap[w.heap.size]? = some (.cells #[.pointer none, .string { data := #[] }, .int .i32 0, .int .u32 0, .int .u16 0, .int .u8 0, .int .u8 0] 36 (0, 0)) := by
    rw [hb2.block _ H1.out.2.1]
    exact H1.out.1
  have H2 := Lib.hid (And.intro hrow (And.intro hr (H1.out.2.2.trans (hb2.mono H1.out.2.2.size))))
  clear hb2 hr hrow
  go_wp2_with (refine wpList_store_row rfl 36 _ _ rfl w.heap.size _ rfl rfl 36 _ H2.out.1 (by kernel_rfl) rfl (by kernel_rfl) ?_)
  have hend := setRow_heap w2 w.heap.size _ #[.pointer none, .string (r ++ unit), .int .i32 loc, .int .u32 0, .int .u16 (o r), .int .u8 k, .int .u8 0] 36 (0, 0) H2.out.1
  refine bodyPost_ret (results_cell_row rfl _ _ w.heap.size 36 _ (0, 0) _ rfl hend Tryd.underlying36 rfl (by kernel_rfl)) rfl ⟨r, H2.out.2.1, rfl, ?_⟩
  exact below_setRow H2.out.2.2 (Nat.le_refl _) _

set_option maxHeartbeats 1000000 in
theorem zz20 (loc m : Int) (unit : ByteArray) (w : World) (hs : unit.size ≤ maxLen) : Calls Tryd.prog 10 #[.int .i32 loc, .int .i64 m, .string unit] w (BoolIf (unit.size ≤ 1048576) w) := by
  unfold maxLen at hs
  go_enter Tryd.func10, Tryd.ntmps10
  go_wp2
  · go_ret; exact ⟨false, rfl, (fun h => Bool.noConfusion h), rfl⟩
  go_ret
  exact ⟨true, rfl, fun _ => (by omega), rfl⟩

theorem fixText_size (neg : Bool) (M d : Nat) (hM : M ≤ 1099511627776) (hd : d ≤ 4) : (txt (fixText neg M d)).size ≤ 100 := by
  have hN : Lib.nDigits M ≤ 13 := nDigits_le M 13 (by omega) (by omega)
  rw [txt_size]
  unfold fixText
  cases neg <;> simp [digs_length] <;> split <;> simp [digs_length] <;> omega
theorem quo_hundred (m : Int) (hM : m.natAbs ≤ 1099511627776) : floatBits .quo .f64 (floatOfInt .f64 m) 4636737291354636288 = some (fword (decide (m < 0)) m.natAbs 2) := by
  have := quo_word m 2 (by omega) (by omega) hM
  rwa [show fint false (10 ^ 2) = 4636737291354636288 by decide +kernel] at this
/-- What the call makes of m/100. -/
theorem made_any (m : Int) (unit : ByteArray) (w : World) (k loc : Int) (o : ByteArray → Int) (hM : m.natAbs ≤ 1099511627776) (hv : FmtVars w) (ht : Lib.TabIs Tryd.prog w "internal/strconv.uint64pow10" .u64 Lib.pow10Tab)
    (hu : unit.size ≤ 4096) (hc : ((unit.toList == [37]) = true ∧ k = 34 ∧ o = fun _ => 0) ∨ ((unit.toList == [37]) = false ∧ k = 26 ∧ o = fun r => r.size)) :
    Calls Tryd.prog 11 #[.int .i32 loc, .float .f64 (fword (decide (m < 0)) m.natAbs 2), .string unit] w (Made (txt (fixText (decide (m < 0)) m.natAbs 2)) unit k loc o w) := by
  have hT := fixText_size (decide (m < 0)) m.natAbs 2 hM (by omega)
  refine zzmd_any loc k _ _ unit o w (fun wx hb => ?_)
  have hF : ∀ wy, Below wx.heap.size wx wy → Calls Tryd.prog 15 #[.agg #[.float .f64 (fword (decide (m < 0)) m.natAbs 2)], .int .i64 2] wy fun e w' => ∃ r, e = .returned (.string r) ∧ Struck (txt (fixText (decide (m < 0)) m.natAbs 2)) r ∧ Below wy.heap.size wy w' := fun wy hby =>
    ff_dec (decide (m < 0)) m.natAbs 2 wy (by omega) (by omega) hM (fun h => by simp; omega) ((hv.below hb).below hby) (tab_below (tab_below ht hb) hby)
  unfold Made
  rcases hc with ⟨hne, rfl, rfl⟩ | ⟨hne, rfl, rfl⟩
  · exact md_percent loc _ _ unit wx (by omega) hu hne hF
  · exact md_dim loc _ _ unit wx (by omega) hu hne hF

set_option maxRecDepth 100000 in
set_option maxHeartbeats 4000000 in
theorem law20_in (loc m : Int) (unit : ByteArray) (w : World) (h1 : -1099511627776 ≤ m) (h2 : m ≤ 1099511627776) (hu : unit.size ≤ 4096) (hv : FmtVars w) (ht : Lib.TabIs Tryd.prog w "internal/strconv.uint64pow10" .u64 Lib.pow10Tab) :
    Calls Tryd.prog 4 #[.int .i32 loc, .int .i64 m, .string unit] w (LawOk w) := by
  have hq := quo_hundred m (by omega)
  have hqu := fun (ty : TypeId) (wx : World) => run_float_arith (P := Tryd.prog) wx .quo ty .f64 _ _ _ hq
  clear hq
  have HZ := Lib.hid (fun wx => zz20 loc m unit wx (by unfold maxLen; omega))
  have HF := Lib.hid (fun wx (hb : Below w.heap.size w wx) k o hc => made_any m unit wx k loc o (by omega) (hv.below hb) (tab_below ht hb) hu hc)
  have HD := Lib.hid (fun wx => dec_all m 2 wx (by omega) (by omega) (by omega))
  have HE := Lib.hid (fun r s => struck_shown (decide (m < 0)) m.natAbs 2 r s (by omega))
  have HT := Lib.hid (fixText_size (decide (m < 0)) m.natAbs 2 (by omega) (by omega))
  clear hv ht
  have q3 : ¬ (1099511627776 : Int) < m := by omega
  have q4 : ¬ m < (-1099511627776 : Int) := by omega
  have q5 : ¬ 4096 < unit.size := by omega
  generalize fword (decide (m < 0)) m.natAbs 2 = V at *
  generalize txt (fixText (decide (m < 0)) m.natAbs 2) = T at *
  by_cases hp : (unit.toList == [37]) = true
  · have HM := Lib.hid (fun wx hb => HF.out wx hb 34 (fun _ => 0) (Or.inl ⟨hp, rfl, rfl⟩))
    clear HF
    unfold Made at *
    go_enter Tryd.func4, Tryd.ntmps4
    go_wp2_with fail
    refine (HZ.out _).mono ?_
    rintro e w0 ⟨b, rfl, _, rfl⟩
    cases b with
    | false =>
      go_wp2
      go_ret
      exact ⟨rfl, Below.refl _ _⟩
    | true =>
      go_wp2_with fail
      refine (HM.out _ (Below.refl _ _)).mono ?_
      rintro e w1 ⟨r, hr, rfl, hb1⟩
      have hrs := Nat.le_trans hr.size HT.out
      have hrow := heap_alloc_new w1 (.cells #[.pointer none, .string (r ++ unit), .int .i32 loc, .int .u32 0, .int .u16 0, .int .u8 34, .int .u8 0] 36)
      have H1 := Lib.hid (And.intro hrow (And.intro hr hb1))
      clear hb1 hr hrow
      go_wp2_with fail
      refine (HD.out _).mono ?_
      rintro e w2 ⟨s, rfl, hs, hb2⟩
      obtain rfl := HE.out r s H1.out.2.1 hs
      have hrow := (hb2.block _ (by simp)).trans H1.out.1
      have hlt : w1.heap.size < w2.heap.size := by
        have := hb2.size
        simp at this
        omega
      have H2 := Lib.hid (And.intro hrow ((H1.out.2.2.alloc (H1.out.2.2.size) _).trans (hb2.mono (by simp; exact Nat.le_succ_of_le H1.out.2.2.size))))
      clear hb2 hrow hlt hs
      have c0 := cell_of_row _ _ 0 _ _ _ H2.out.1
      have c1 := cell_of_row _ _ 1 _ _ _ H2.out.1
      have c2 := cell_of_row _ _ 2 _ _ _ H2.out.1
      have c4 := cell_of_row _ _ 4 _ _ _ H2.out.1
      have c5 := cell_of_row _ _ 5 _ _ _ H2.out.1
      have c6 := cell_of_row _ _ 6 _ _ _ H2.out.1
      simp at c0 c1 c2 c4 c5 c6
      go_wp2
      go_ret
      exact ⟨rfl, H2.out.2⟩
  · have hne : (unit.toList == [37]) = false := by simpa using hp
    clear hp
    have HM := Lib.hid (fun wx hb => HF.out wx hb 26 (fun r => (r.size : Int)) (Or.inr ⟨hne, rfl, rfl⟩))
    clear HF
    unfold Made at *
    go_enter Tryd.func4, Tryd.ntmps4
    go_wp2_with fail
    refine (HZ.out _).mono ?_
    rintro e w0 ⟨b, rfl, _, rfl⟩
    cases b with
    | false =>
      go_wp2
      go_ret
      exact ⟨rfl, Below.refl _ _⟩
    | true =>
      go_wp2_with fail
      refine (HM.out _ (Below.refl _ _)).mono ?_
      rintro e w1 ⟨r, hr, rfl, hb1⟩
      have hrs := Nat.le_trans hr.size HT.out
      have hrow := heap_alloc_new w1 (.cells #[.pointer none, .string (r ++ unit), .int .i32 loc, .int .u32 0, .int .u16 r.size, .int .u8 26, .int .u8 0] 36)
      have H1 := Lib.hid (And.intro hrow (And.intro hr hb1))
      clear hb1 hr hrow
      go_wp2_with fail
      refine (HD.out _).mono ?_
      rintro e w2 ⟨s, rfl, hs, hb2⟩
      obtain rfl := HE.out r s H1.out.2.1 hs
      have hrow := (hb2.block _ (by simp)).trans H1.out.1
      have hlt : w1.heap.size < w2.heap.size := by
        have := hb2.size
        simp at this
        omega
      have H2 := Lib.hid (And.intro hrow ((H1.out.2.2.alloc (H1.out.2.2.size) _).trans (hb2.mono (by simp; exact Nat.le_succ_of_le H1.out.2.2.size))))
      clear hb2 hrow hlt hs
      have c0 := cell_of_row _ _ 0 _ _ _ H2.out.1
      have c1 := cell_of_row _ _ 1 _ _ _ H2.out.1
      have c2 := cell_of_row _ _ 2 _ _ _ H2.out.1
      have c4 := cell_of_row _ _ 4 _ _ _ H2.out.1
      have c5 := cell_of_row _ _ 5 _ _ _ H2.out.1
      have c6 := cell_of_row _ _ 6 _ _ _ H2.out.1
      simp at c0 c1 c2 c4 c5 c6
      go_wp2
      go_ret
      exact ⟨rfl, H2.out.2⟩

set_option maxRecDepth 100000 in
set_option maxHeartbeats 1000000 in
theorem law20_wf (loc m : Int) (unit : ByteArray) (W : World) (_hl : (Lit.int .i32 loc).wf = true) (_hm : (Lit.int .i64 m).wf = true) (hw : unit.size ≤ maxLen) (hv : FmtVars W) (ht : Lib.TabIs Tryd.prog W "internal/strconv.uint64pow10" .u64 Lib.pow10Tab) :
    Calls Tryd.prog 4 #[.int .i32 loc, .int .i64 m, .string unit] W (LawOk W) := by
  by_cases hu : unit.size ≤ 4096 ∧ -1099511627776 ≤ m ∧ m ≤ 1099511627776
  · exact law20_in loc m unit W hu.2.1 hu.2.2 hu.1 hv ht
  · have HZ := Lib.hid (fun wx => zz20 loc m unit wx hw)
    clear hv ht
    unfold maxLen at hw
    by_cases g1 : 4096 < unit.size
    · go_enter Tryd.func4, Tryd.ntmps4
      go_wp2_with fail
      refine (HZ.out _).mono ?_
      rintro e w0 ⟨b, rfl, _, rfl⟩
      cases b with
      | false =>
        go_wp2
        go_ret
        exact ⟨rfl, Below.refl _ _⟩
      | true =>
        go_wp2
        go_ret
        exact ⟨rfl, Below.refl _ _⟩
    · by_cases g2 : 1099511627776 < m
      · go_enter Tryd.func4, Tryd.ntmps4
        go_wp2_with fail
        refine (HZ.out _).mono ?_
        rintro e w0 ⟨b, rfl, _, rfl⟩
        cases b with
        | false =>
          go_wp2
          go_ret
          exact ⟨rfl, Below.refl _ _⟩
        | true =>
          go_wp2
          go_ret
          exact ⟨rfl, Below.refl _ _⟩
      · have g3 : m < -1099511627776 := by omega
        go_enter Tryd.func4, Tryd.ntmps4
        go_wp2_with fail
        refine (HZ.out _).mono ?_
        rintro e w0 ⟨b, rfl, _, rfl⟩
        cases b with
        | false =>
          go_wp2
          go_ret
          exact ⟨rfl, Below.refl _ _⟩
        | true =>
          go_wp2
          go_ret
          exact ⟨rfl, Below.refl _ _⟩
end Go.Proofs.YtodlhjdogcpffaaDoor
