/- The sum whose first term is infinite; the sum boxed. -/
import Derived.Test.YtlajoolgfhlmkaaGreatFmtT4
namespace Go.Proofs.YtlajoolgfhlmkaaGreatFmt
open Go.RowKit
set_option linter.unusedVariables false

set_option maxRecDepth 100000 in
set_option maxHeartbeats 1000000 in
theorem sum_bad (q : Nat) (a : Option Addr) (n c : Nat) (t0 : TD) (ts : List TD) (ws : Int) (w : World) (hq : w.cell? ⟨q, 0, none⟩ = some (.slice a n c)) (hn : ts.length + 1 = n) (hn2 : n ≤ 65536) (hc1 : n ≤ c) (hn1 : 2 ≤ n) (hc2 : c ≤ maxLen) (hT : Terms w a (t0 :: ts)) (h0 : 1 < t0.kd) :
    Calls Tryz.prog 13 #[.pointer (some ⟨q, 0, none⟩), .int .u8 ws] w (SumNo w) := by
  obtain ⟨i0, hi, hz0, hz1, hz2⟩ := info_parts tok_info
  have hqb : q < w.heap.size := block_lt_of_cell hq
  obtain ⟨b, o, ha, hbl, h2⟩ := hT.row.blk (by simp)
  have hc0 := h2 0 (by simp)
  have hok := hT.ok t0 (by simp)
  clear h2 hT
  obtain ⟨kd, s, tb, tc⟩ := t0
  dsimp only at h0
  have hk0 : kd ≠ 0 := by omega
  have hk1 : kd ≠ 1 := by omega
  simp only [TD.ok, if_neg hk0, if_neg hk1] at hok
  obtain ⟨f, hf, hv⟩ := hok
  have HV := Lib.hid hv
  have htb : tb < w.heap.size := (Array.getElem?_eq_some_iff.1 hv).1
  have hc0' : w.cell? ⟨b, o, none⟩ = some (.iface 45 (.pointer (some ⟨tb, 0, none⟩))) := by simpa [cellsD, TD.data, hk0, hk1] using hc0
  clear hc0 hv hk0 hk1 h0
  subst ha
  have HF := Lib.hid hf
  clear hf
  have t0 := fun v wx => ta_no (T := 45) Tryz.underlying62 (by decide) (by kernel_rfl) v wx
  have mn := fun v wx => meth_num v wx
  unfold maxLen at hc2
  go_enter Tryz.func13, Tryz.ntmps13
  go_wp2_with (at_make; (refine wpList_make_own _ rfl _ _ 44 rfl w.heap.size 41 i0 _ 7 Tryz.underlying44 hi hz0 hz1 .i64 .i64 _ (n * 2) rfl rfl (by rfl) (by rw [hz2]; omega) (by unfold maxLen; omega) (by simp) ?_); intro w1 hown1 hg1; have hsz : (w.alloc (.cells tok0 41)).heap.size = w.heap.size + 1 := (by simp); rw [hsz] at hown1; have hb1 : Below w.heap.size w w1 := ((Below.refl _ _).alloc (Nat.le_refl _) _).grown hg1 (by simp) (fun k h => by cases h); have q1 := (hb1.cell (p := ⟨q, 0, none⟩) hqb).trans hq; have c1 := (hb1.cell (p := ⟨b, o, none⟩) hbl).trans hc0'; have q1b := block_lt_of_cell q1; have c1b := block_lt_of_cell c1; have hv1 := (hb1.block tb htb).trans HV.out; have r1 : w1.heap[w.heap.size]? = some (.cells tok0 41 (0, 0)) := (by rw [hg1.block _ (by simp) (fun h => by cases h)]; exact heap_alloc_new _ _); have s1 : w.heap.size + 1 < w1.heap.size := (owns_lt hown1); have H1 := Lib.hid (And.intro hown1 (And.intro hb1 (And.intro hv1 r1))); clear hown1 hg1 hb1 hv1 r1)
  have htb1 : tb < w1.heap.size := by omega
  refine (numeric_any tb f HF.out ws _ (by exact cell_of_row _ _ 1 _ _ _ ((heap_alloc_old _ _ htb1).trans H1.out.2.2.1))).mono ?_
  rintro e w2 ⟨rfl, hb2⟩
  have b2 := hb2.size
  simp at b2
  have r2 : (w2.alloc (.cells tok0 41)).heap[w.heap.size]? = some (.cells tok0 41 (0, 0)) := by
    rw [heap_alloc_old _ _ (by omega), hb2.block _ (by simp; omega), heap_alloc_old _ _ (by omega)]
    exact H1.out.2.2.2
  have HB2 := Lib.hid hb2
  clear hb2
  go_wp2_with (refine wpList_store_row rfl 41 _ _ rfl w.heap.size _ rfl rfl 41 _ r2 (by kernel_rfl) rfl (by kernel_rfl) ?_)
  have hend := setRow_heap (w2.alloc (.cells tok0 41)) w.heap.size _ tok0 41 (0, 0) r2
  refine bodyPost_ret (results_row_tmp rfl _ _ w.heap.size 41 _ (0, 0) _ rfl hend Tryz.underlying41 rfl (by kernel_rfl)) rfl ⟨rfl, below_setRow ?_ (Nat.le_refl _) _⟩
  exact ((H1.out.2.1.alloc H1.out.2.1.size _).trans (HB2.out.mono (by simp; omega))).alloc (by omega) _
/-- What the sum answers. -/
def SumAns (ts : List TD) (w : World) (e : Ending) (w' : World) : Prop := (SumOk ts w e w' ∧ ∀ t ∈ ts, t.kd ≤ 1) ∨ (SumNo w e w' ∧ ∃ t ∈ ts, 1 < t.kd)
theorem sum_all (q : Nat) (a : Option Addr) (n c : Nat) (ts : List TD) (ws : Int) (w : World) (hq : w.cell? ⟨q, 0, none⟩ = some (.slice a n c)) (hn : ts.length = n) (hn2 : n ≤ 65536) (hc1 : n ≤ c) (hn1 : 2 ≤ n) (hc2 : c ≤ maxLen) (hT : Terms w a ts) (h0 : ∀ t, ts[0]? = some t → t.kd ≠ 1) :
    Calls Tryz.prog 13 #[.pointer (some ⟨q, 0, none⟩), .int .u8 ws] w (SumAns ts w) := by
  cases ts with
  | nil => simp at hn; omega
  | cons t0 ts =>
    have h1 := h0 t0 rfl
    by_cases hk : 1 < t0.kd
    · exact (sum_bad q a n c t0 ts ws w hq (by simpa using hn) hn2 hc1 hn1 hc2 hT hk).mono fun e w' h => Or.inr ⟨h, t0, by simp, hk⟩
    · refine (sum_first q a n c t0 ts ws w hq (by simpa using hn) hn2 hc1 hn1 hc2 hT (by omega)).mono fun e w' h => ?_
      rcases h with ⟨h, h2⟩ | ⟨h, t, ht, h2⟩
      · exact Or.inl ⟨h, fun t ht => by
          rcases List.mem_cons.1 ht with rfl | ht
          · omega
          · exact h2 t ht⟩
      · exact Or.inr ⟨h, t, List.mem_cons_of_mem _ ht, h2⟩
theorem cell_setRow (w : World) (g b o : Nat) (cs : Array Value) (h : b ≠ g) : (w.setRow g cs).cell? ⟨b, o, none⟩ = w.cell? ⟨b, o, none⟩ := by
  simp only [World.cell?, setRow_other w g b cs h]
set_option maxRecDepth 100000 in
set_option maxHeartbeats 1000000 in
theorem sum_any (a : Option Addr) (n c : Nat) (ts : List TD) (ws : Int) (w : World) (hn : ts.length = n) (hn2 : n ≤ 65536) (hc1 : n ≤ c) (hn1 : 2 ≤ n) (hc2 : c ≤ maxLen) (hT : Terms w a ts) (h0 : ∀ t, ts[0]? = some t → t.kd ≠ 1) :
    Calls Tryz.prog 12 #[.slice a n c, .int .u8 ws] w (SumAns ts w) := by
  have H := Lib.hid (fun w' (hb : Below w.heap.size w w') q hq => sum_all q a n c ts ws w' hq hn hn2 hc1 hn1 hc2 (hT.below hb) h0)
  clear hn hT h0
  go_enter Tryz.func12, Tryz.ntmps12
  go_wp2_with fail
  have hb0 : Below w.heap.size w ((w.alloc (.cells tok0 41)).alloc (.cells #[.slice a n c] 60)) := ((Below.refl _ _).alloc (Nat.le_refl _) _).alloc (by simp) _
  refine (H.out _ hb0 (w.heap.size + 1) ?_).mono ?_
  · have := cell_of_row _ _ 0 _ _ _ (two_second w (.cells tok0 41) (.cells #[.slice a n c] 60))
    exact this
  · intro e w1 h
    have hres := two_first w (.cells tok0 41) (.cells #[.slice a n c] 60)
    have HB0 := Lib.hid hb0
    clear hb0
    rcases h with ⟨⟨g, g2, m, c', rfl, hm, hg, hrow, l1, l2, hb⟩, hgood⟩ | ⟨⟨rfl, hb⟩, hbad⟩
    · have r1 : w1.heap[w.heap.size]? = some (.cells tok0 41 (0, 0)) := (hb.block _ (by simp; omega)).trans hres
      simp at l1 l2
      have HB := Lib.hid hb
      have HG := Lib.hid hg
      have HR := Lib.hid hrow
      have HM := Lib.hid hm
      have HGO := Lib.hid hgood
      clear hb hg hrow hm hgood hres
      go_wp2_with (refine wpList_store_row rfl 41 _ _ rfl w.heap.size _ rfl rfl 41 _ r1 (by kernel_rfl) rfl (by kernel_rfl) ?_)
      have hend := setRow_heap w1 w.heap.size _ (tokR 33 { data := #[40] } (.pointer (some ⟨g, 0, none⟩)) 0) 41 (0, 0) r1
      refine bodyPost_ret (results_row_tmp rfl _ _ w.heap.size 41 _ (0, 0) _ rfl hend Tryz.underlying41 rfl (by kernel_rfl)) rfl (Or.inl ⟨⟨g, g2, m, c', rfl, HM.out, ?_, fun hm0 => ?_, by omega, by omega, below_setRow (HB0.out.trans (HB.out.mono (by simp; omega))) (Nat.le_refl _) _⟩, HGO.out⟩)
      · rw [cell_setRow _ _ _ _ _ (by omega)]
        exact HG.out
      · obtain ⟨b', o', e', hc⟩ := HR.out hm0
        refine ⟨b', o', e', fun i hi => ?_⟩
        have e2 : g2 = b' := by simpa using congrArg (fun x => x.map Addr.block) e'
        rw [cell_setRow _ _ _ _ _ (by omega)]
        exact hc i hi
    · have r1 : w1.heap[w.heap.size]? = some (.cells tok0 41 (0, 0)) := (hb.block _ (by simp; omega)).trans hres
      have HB := Lib.hid hb
      have HGO := Lib.hid hbad
      clear hb hbad hres
      go_wp2_with (refine wpList_store_row rfl 41 _ _ rfl w.heap.size _ rfl rfl 41 _ r1 (by kernel_rfl) rfl (by kernel_rfl) ?_)
      have hend := setRow_heap w1 w.heap.size _ tok0 41 (0, 0) r1
      exact bodyPost_ret (results_row_tmp rfl _ _ w.heap.size 41 _ (0, 0) _ rfl hend Tryz.underlying41 rfl (by kernel_rfl)) rfl (Or.inr ⟨⟨rfl, below_setRow (HB0.out.trans (HB.out.mono (by simp; omega))) (Nat.le_refl _) _⟩, HGO.out⟩)
end Go.Proofs.YtlajoolgfhlmkaaGreatFmt
