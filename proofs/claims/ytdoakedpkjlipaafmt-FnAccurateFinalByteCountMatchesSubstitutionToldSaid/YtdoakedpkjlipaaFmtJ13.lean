/- The output made of pieces. -/
import Derived.Test.YtdoakedpkjlipaaFmtJ12
namespace Go.Proofs.YtdoakedpkjlipaaFmt
open Go.RowKit
set_option linter.unusedVariables false
theorem pieceM_info : (Tryf.prog.info? 147).map (fun i => (i.zero, i.size, i.bytes)) = some (some (.agg #[.slice none 0 0, .int .u32 0, .int .u8 0]), 3, 32) := by kernel_rfl
def zP : Array Value := #[.slice none 0 0, .int .u32 0, .int .u8 0]
def pF (ps : List PD) (k j : Nat) : Option Value := if j / 3 < k then (cellsP ps)[j]? else zP[j % 3]?
theorem pF_zero (ps : List PD) (n j : Nat) (h : j < n * 3) : (madeCells (Value.agg #[.slice none 0 0, .int .u32 0, .int .u8 0]).cells (n * 3)).toList[j]? = pF ps 0 j := by
  have h1 : (Value.agg #[.slice none 0 0, .int .u32 0, .int .u8 0]).cells = zP := by kernel_rfl
  rw [h1, Array.getElem?_toList]
  unfold madeCells pF
  rw [if_neg (by omega), Array.getElem?_map, Array.getElem?_range, if_pos h]
  have h2 : j % 3 < zP.size := by show _ < 3; omega
  simp only [Option.map_some]
  show some zP[j % 3]! = _
  rw [getElem!_pos zP (j % 3) h2, Array.getElem?_eq_getElem h2]
theorem cellsP_some (ps : List PD) (k : Nat) (h : k < ps.length) : (cellsP ps)[k * 3]? = some (.slice ps[k].a ps[k].n ps[k].c) ∧ (cellsP ps)[k * 3 + 1]? = some (.int .u32 ps[k].idx) ∧ (cellsP ps)[k * 3 + 2]? = some (.int .u8 ps[k].kd) := by
  have hl := cellsP_length ps
  obtain ⟨h0, h1, h2⟩ := cellsP_get ps k ps[k] (List.getElem?_eq_getElem h)
  have key : ∀ j v, j < (cellsP ps).length → (cellsP ps).getD j undef = v → (cellsP ps)[j]? = some v := fun j v hj hv => by
    rw [List.getD_eq_getElem?_getD, List.getElem?_eq_getElem hj] at hv
    rw [List.getElem?_eq_getElem hj]
    exact congrArg some hv
  exact ⟨key _ _ (by omega) h0, key _ _ (by omega) h1, key _ _ (by omega) h2⟩
theorem pF_step (ps : List PD) (n k : Nat) (xs : List Value) (hn : ps.length = n) (hl : xs.length = n * 3) (h : ∀ j, j < n * 3 → xs[j]? = pF ps k j) (hk : k < n) :
    ∀ j, j < n * 3 → (((xs.set (k * 3) (.slice (ps[k]'(by omega)).a (ps[k]'(by omega)).n (ps[k]'(by omega)).c)).set (k * 3 + 1) (.int .u32 (ps[k]'(by omega)).idx)).set (k * 3 + 2) (.int .u8 (ps[k]'(by omega)).kd))[j]? = pF ps (k + 1) j := by
  intro j hj
  obtain ⟨h0, h1, h2⟩ := cellsP_some ps k (by omega)
  rw [List.getElem?_set, List.getElem?_set, List.getElem?_set]
  simp only [List.length_set]
  by_cases e2 : k * 3 + 2 = j
  · subst e2
    rw [if_pos rfl, if_pos (by omega), ← h2]
    unfold pF
    rw [if_pos (by omega)]
  rw [if_neg e2]
  by_cases e1 : k * 3 + 1 = j
  · subst e1
    rw [if_pos rfl, if_pos (by omega), ← h1]
    unfold pF
    rw [if_pos (by omega)]
  rw [if_neg e1]
  by_cases e0 : k * 3 = j
  · subst e0
    rw [if_pos rfl, if_pos (by omega), ← h0]
    unfold pF
    rw [if_pos (by omega)]
  rw [if_neg e0, h j hj]
  unfold pF
  by_cases hc : j / 3 < k
  · rw [if_pos hc, if_pos (by omega)]
  · rw [if_neg hc, if_neg (by omega)]
def NewOutOk (ps : List PD) (n : Nat) (w : World) (e : Ending) (w' : World) : Prop :=
  ∃ pa, e = .returned (.agg #[.slice pa n n, .slice none 0 0, .slice none 0 0, .int .u32 0, .int .u8 0]) ∧ pa.isSome = true ∧ RowAt w' pa (n * 3) (fun i => (cellsP ps).getD i undef) ∧ Below w.heap.size w w'
def dRow (ps : List PD) (i : Nat) : Value := (ps.map fun p => Value.slice p.a p.n p.c).getD i undef
def iRow (ps : List PD) (i : Nat) : Value := (ps.map fun p => Value.int .u32 p.idx).getD i undef
def kRow (ps : List PD) (i : Nat) : Value := (ps.map fun p => Value.int .u8 p.kd).getD i undef
theorem own_drew {w : World} {base : Nat} {e : TypeId} {size n : Nat} {v : Value} {xs : List Value} (h : w.ownsRow base e size v n xs) : w.drew.ownsRow base e size v n xs := h
set_option maxRecDepth 100000 in
set_option maxHeartbeats 400000 in
theorem newOut_any (n dc ic kc : Nat) (da ia ka : Option Addr) (ps : List PD) (w : World) (hn : n ≤ 4096) (hps : ps.length = n) (hd : RowAt w da n (dRow ps)) (hi : RowAt w ia n (iRow ps)) (hk : RowAt w ka n (kRow ps)) :
    Calls Tryf.prog 12 #[.slice da n dc, .slice ia n ic, .slice ka n kc] w (NewOutOk ps n w) := by
  obtain ⟨i0, hi0, hz0, hz1, hz2⟩ := info_parts pieceM_info
  have HR := Lib.hid (And.intro hd (And.intro hi hk))
  have HP := Lib.hid hps
  clear hd hi hk hps
  go_enter Tryf.func12, Tryf.ntmps12
  go_wp2_with (at_make; refine wpList_make_full _ rfl _ _ 35 rfl (w.heap.size + 1) 147 i0 _ 3 Tryf.underlying35 hi0 hz0 hz1 .i64 .i64 _ _ n rfl rfl rfl rfl (by rw [hz2]; omega) (by unfold maxLen; omega) (by simp) ?_; intro w1 hown hg; have hsz : (w.alloc (.cells #[.slice none 0 0, .slice none 0 0, .slice none 0 0, .int .u32 0, .int .u8 0] 42)).heap.size = w.heap.size + 1 := (by simp); rw [hsz] at hown; clear hsz; have HO := Lib.hid hown; have HG := Lib.hid hg; clear hown hg)
  have hg := HG.out
  have hb0 : Below (w.heap.size + 1) (w.alloc (.cells #[.slice none 0 0, .slice none 0 0, .slice none 0 0, .int .u32 0, .int .u8 0] 42)) w1 := (Below.refl _ _).grown hg (by simp) (fun k h => by cases h)
  have hrow0 : ∃ xs, w1.ownsRow (w.heap.size + 1) 147 3 (.slice (some ⟨w.heap.size + 1, 0, none⟩) n n) n xs ∧ ∀ j, j < n * 3 → xs[j]? = pF ps 0 j := ⟨_, HO.out, pF_zero ps n⟩
  clear hg HG
  obtain ⟨xs0, hx0, hx1⟩ := hrow0
  clear HO
  have HH0 := Lib.hid (And.intro hb0 (And.intro hx0 hx1))
  clear hb0 hx0 hx1
  go_wp2_with fail
  go_loopw [8] (fun i wr => ∃ (k : Nat) (xs : List Value), k ≤ n ∧ i = .int .i64 k ∧ wr.ownsRow (w.heap.size + 1) 147 3 (.slice (some ⟨w.heap.size + 1, 0, none⟩) n n) n xs ∧ (∀ j, j < n * 3 → xs[j]? = pF ps k j) ∧ Below (w.heap.size + 1) (w.alloc (.cells #[.slice none 0 0, .slice none 0 0, .slice none 0 0, .int .u32 0, .int .u8 0] 42)) wr) (fun i _ => n - (intOf i).toNat)
  case atStart => exact ⟨0, xs0, Nat.zero_le _, rfl, HH0.out.2.1, HH0.out.2.2, HH0.out.1⟩
  case round =>
    obtain ⟨k, xs, hk, rfl, hown, hxs, hb⟩ := hrel
    by_cases hlt : k < n
    · have hkp : k < ps.length := by rw [HP.out]; exact hlt
      obtain ⟨b1, o1, rfl, hbl1, hc1⟩ := HR.out.1.blk (by omega)
      obtain ⟨b2, o2, rfl, hbl2, hc2⟩ := HR.out.2.1.blk (by omega)
      obtain ⟨b3, o3, rfl, hbl3, hc3⟩ := HR.out.2.2.blk (by omega)
      have hbw : Below w.heap.size w wr := ((Below.refl _ _).alloc (Nat.le_refl _) _).trans (hb.mono (Nat.le_succ _))
      have d1 := (hbw.cell (p := ⟨b1, o1 + k, none⟩) hbl1).trans (hc1 k hlt)
      have d2 := (hbw.cell (p := ⟨b2, o2 + k, none⟩) hbl2).trans (hc2 k hlt)
      have d3 := (hbw.cell (p := ⟨b3, o3 + k, none⟩) hbl3).trans (hc3 k hlt)
      have e1 : dRow ps k = .slice ps[k].a ps[k].n ps[k].c := by simp [dRow, hkp]
      have e2 : iRow ps k = .int .u32 ps[k].idx := by simp [iRow, hkp]
      have e3 : kRow ps k = .int .u8 ps[k].kd := by simp [kRow, hkp]
      rw [e1] at d1
      rw [e2] at d2
      rw [e3] at d3
      have p0 := (hown.cellAt (k * 3) (by omega)).trans (hxs _ (by omega))
      have z0 : pF ps k (k * 3) = some (.slice none 0 0) := by unfold pF; rw [if_neg (by omega), show k * 3 % 3 = 0 by omega]; rfl
      have z1 : pF ps k (k * 3 + 1) = some (.int .u32 0) := by unfold pF; rw [if_neg (by omega), show (k * 3 + 1) % 3 = 1 by omega]; rfl
      have z2 : pF ps k (k * 3 + 2) = some (.int .u8 0) := by unfold pF; rw [if_neg (by omega), show (k * 3 + 2) % 3 = 2 by omega]; rfl
      have hstep := pF_step ps n k xs HP.out hown.1 hxs hlt
      rw [z0] at p0
      have f0 := hown.frozenAt (k * 3)
      clear hc1 hc2 hc3 e1 e2 e3 hbw
      generalize ps[k] = p at *
      have hs0 := hown.stored (k * 3) (.slice p.a p.n p.c)
      have p1 := hs0.1.cellAt (k * 3 + 1) (by omega)
      rw [List.getElem?_set_ne (by omega), hxs _ (by omega), z1] at p1
      have f1 := hs0.1.frozenAt (k * 3 + 1)
      have hs1 := hs0.1.stored (k * 3 + 1) (.int .u32 p.idx)
      have p2 := hs1.1.cellAt (k * 3 + 2) (by omega)
      rw [List.getElem?_set_ne (by omega), List.getElem?_set_ne (by omega), hxs _ (by omega), z2] at p2
      have f2 := hs1.1.frozenAt (k * 3 + 2)
      have hs2 := hs1.1.stored (k * 3 + 2) (.int .u8 p.kd)
      have HS := Lib.hid hs2.1
      have HSTEP := Lib.hid hstep
      have HB2 := Lib.hid (((hb.setCell (p := ⟨w.heap.size + 1, k * 3, none⟩) (by simp) (.slice p.a p.n p.c)).setCell (p := ⟨w.heap.size + 1, k * 3 + 1, none⟩) (by simp) (.int .u32 p.idx)).setCell (p := ⟨w.heap.size + 1, k * 3 + 2, none⟩) (by simp) (.int .u8 p.kd))
      clear hs0 hs1 hs2 hstep hb hxs hown z0 z1 z2
      go_wp2_with fail
      go_region_law
      all_goals (try simp only [Exit.inBlock, Exit.then])
      all_goals go_wp2_with fail
      all_goals go_roundw
      all_goals first
        | exact ⟨k + 1, _, by omega, by go_num, HS.out, HSTEP.out, HB2.out⟩
        | exact ⟨k + 1, _, by omega, by go_num, own_drew HS.out, HSTEP.out, HB2.out.drew⟩
        | (simp [intOf]; omega)
    · obtain rfl : k = n := by omega
      have r5 : wr.heap[w.heap.size]? = some (.cells #[.slice none 0 0, .slice none 0 0, .slice none 0 0, .int .u32 0, .int .u8 0] 42 (0, 0)) := by rw [hb.block _ (Nat.lt_succ_self _)]; exact heap_alloc_new _ _
      have HO2 := Lib.hid hown
      have HX := Lib.hid hxs
      have HB2 := Lib.hid hb
      have HR5 := Lib.hid r5
      clear hown hb hxs r5
      go_wp2_with (refine wpList_store_row rfl 42 _ _ rfl w.heap.size _ rfl rfl 42 _ HR5.out (by kernel_rfl) rfl (by kernel_rfl) ?_)
      have hJ := setRow_heap wr w.heap.size _ #[.slice (some ⟨w.heap.size + 1, 0, none⟩) k k, .slice none 0 0, .slice none 0 0, .int .u32 0, .int .u8 0] 42 (0, 0) HR5.out
      refine bodyPost_ret (results_cell_row rfl _ _ w.heap.size 42 _ (0, 0) _ rfl hJ Tryf.underlying42 rfl (by kernel_rfl)) rfl ⟨some ⟨w.heap.size + 1, 0, none⟩, rfl, rfl, ?_, ?_⟩
      · intro h0
        refine ⟨w.heap.size + 1, 0, rfl, fun i hi => ?_⟩
        have h1 := (HO2.out.cellAt i hi).trans (HX.out i hi)
        unfold pF at h1
        rw [if_pos (by omega)] at h1
        rw [Nat.zero_add, cell_setRow_other _ _ _ _ (by simp), h1]
        show _ = some ((cellsP ps).getD i undef)
        rw [List.getD_eq_getElem?_getD, List.getElem?_eq_getElem (by rw [cellsP_length, HP.out]; exact hi)]
        rfl
      · exact below_setRow (((Below.refl _ _).alloc (Nat.le_refl _) _).trans (HB2.out.mono (Nat.le_succ _))) (Nat.le_refl _) _
end Go.Proofs.YtdoakedpkjlipaaFmt
