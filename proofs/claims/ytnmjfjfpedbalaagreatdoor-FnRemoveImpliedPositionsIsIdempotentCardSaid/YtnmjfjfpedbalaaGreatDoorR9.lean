/- removeImpliedPositions: its first loop reads the values. -/
import Derived.Test.YtnmjfjfpedbalaaGreatDoorR8
import Derived.Deep.Cut
import Derived.Deep.CutBlock
import Derived.Deep.DeepCutAuto
import Derived.WalkMore
namespace Go.Proofs.YtnmjfjfpedbalaaGreatDoor
open Go.RowKit
set_option linter.unusedVariables false
theorem val_info : (Tryz.prog.info? 57).map (fun i => (i.zero, i.size, i.bytes)) = some (some (.agg #[.string { data := #[] }, .float .f64 0]), 2, 24) := by kernel_rfl
theorem st_size : (Tryz.prog.info? 39).map (·.size) = some 15 := by kernel_rfl
/-- The values' row, the first k done. -/
def Vals (kind : Int) (ss : List SD) (n k : Nat) (xs : List Value) : Prop := (∀ j, j < k → xs[j * 2]? = some (.string (pv kind ss j).1) ∧ xs[j * 2 + 1]? = some (.float .f64 (pv kind ss j).2)) ∧ ∀ j, k ≤ j → j < n → xs[j * 2]? = some (.string { data := #[] }) ∧ ∃ x, xs[j * 2 + 1]? = some (.float .f64 x)
theorem Vals.two {kind : Int} {ss : List SD} {n k : Nat} {xs : List Value} (h : Vals kind ss n k xs) (hk : k < n) (hx : xs.length = n * 2) : Vals kind ss n (k + 1) ((xs.set (k * 2) (.string (pv kind ss k).1)).set (k * 2 + 1) (.float .f64 (pv kind ss k).2)) := by
  refine ⟨fun j hj => ?_, fun j h1 h2 => ?_⟩
  · by_cases e : j = k
    · subst e
      rw [List.getElem?_set_ne (by omega), List.getElem?_set_self (by omega), List.getElem?_set_self (by rw [List.length_set]; omega)]
      exact ⟨rfl, rfl⟩
    · rw [List.getElem?_set_ne (by omega), List.getElem?_set_ne (by omega), List.getElem?_set_ne (by omega), List.getElem?_set_ne (by omega)]
      exact h.1 j (by omega)
  · rw [List.getElem?_set_ne (by omega), List.getElem?_set_ne (by omega), List.getElem?_set_ne (by omega), List.getElem?_set_ne (by omega)]
    exact h.2 j (by omega) h2
theorem Vals.one {kind : Int} {ss : List SD} {n k : Nat} {xs : List Value} (h : Vals kind ss n k xs) (hk : k < n) (hx : xs.length = n * 2) (h1 : (pv kind ss k).1 = { data := #[] }) : Vals kind ss n (k + 1) (xs.set (k * 2 + 1) (.float .f64 (pv kind ss k).2)) := by
  refine ⟨fun j hj => ?_, fun j h2 h3 => ?_⟩
  · by_cases e : j = k
    · subst e
      rw [List.getElem?_set_ne (by omega), List.getElem?_set_self (by omega), h1]
      exact ⟨(h.2 j (Nat.le_refl _) hk).1, rfl⟩
    · rw [List.getElem?_set_ne (by omega), List.getElem?_set_ne (by omega)]
      exact h.1 j (by omega)
  · rw [List.getElem?_set_ne (by omega), List.getElem?_set_ne (by omega)]
    exact h.2 j (by omega) h3
theorem vals_zero (kind : Int) (ss : List SD) (n : Nat) : Vals kind ss n 0 (madeCells #[.string { data := #[] }, .float .f64 0] (n * 2)).toList := by
  refine ⟨fun j hj => absurd hj (Nat.not_lt_zero _), fun j _ hj => ?_⟩
  have key : ∀ i, i < n * 2 → (madeCells #[.string { data := #[] }, .float .f64 0] (n * 2)).toList[i]? = #[Value.string { data := #[] }, .float .f64 0][i % 2]? := fun i hi => by
    rw [Array.getElem?_toList]
    unfold madeCells
    rw [Array.getElem?_map, Array.getElem?_range, if_pos hi]
    have h2 : i % 2 < (#[Value.string { data := #[] }, .float .f64 0]).size := by show _ < 2; omega
    simp only [Option.map_some]
    show some (#[Value.string { data := #[] }, .float .f64 0])[i % 2]! = _
    rw [getElem!_pos _ (i % 2) h2, Array.getElem?_eq_getElem h2]
  rw [key _ (by omega), key _ (by omega), show j * 2 % 2 = 0 by omega, show (j * 2 + 1) % 2 = 1 by omega]
  exact ⟨rfl, 0, rfl⟩
set_option maxRecDepth 100000 in
set_option maxHeartbeats 400000 in
theorem pctv_any (p : Option Addr) (s : ByteArray) (o k : Nat) (w : World) (h0 : 0 < s.size) (hs : s.size ≤ 100) : Calls Tryz.prog 26 #[.agg #[.pointer p, .string s, .int .i32 0, .int .u32 0, .int .u16 o, .int .u8 k, .int .u8 0]] w (fun e w' => e = .returned (.string (s.extract 0 (s.size - 1))) ∧ Below w.heap.size w w') := by
  have e1 : ((s.size : Int) - 1).toNat = s.size - 1 := by omega
  go_enter Tryz.func26, Tryz.ntmps26
  go_wp2_with fail
  go_ret
  exact ⟨by simp, (Below.refl _ _).alloc (Nat.le_refl _) _⟩
set_option maxRecDepth 100000 in
set_option maxHeartbeats 400000 in
theorem dimv_any (p : Option Addr) (s : ByteArray) (o k : Nat) (w : World) (h0 : o ≤ s.size) (hs : s.size ≤ 100) : Calls Tryz.prog 27 #[.agg #[.pointer p, .string s, .int .i32 0, .int .u32 0, .int .u16 o, .int .u8 k, .int .u8 0]] w (fun e w' => e = .returned (.string (s.extract 0 o)) ∧ Below w.heap.size w w') := by
  go_enter Tryz.func27, Tryz.ntmps27
  go_wp2_with fail
  go_ret
  exact ⟨by simp, (Below.refl _ _).alloc (Nat.le_refl _) _⟩
theorem PosAt.grown {w wx : World} {B : Nat} {v : Value} {ts : List TD} (h : PosAt w v ts) (hg : w.grownBy wx (some B)) (hB : ∀ b o l c, v = .slice (some ⟨b, o, none⟩) l c → b ≠ B) : PosAt wx v ts := by
  rcases h with h | ⟨b, c, rfl, h2, h3, h4, h5, h6⟩
  · exact Or.inl h
  · have hne := hB b 0 _ c rfl
    exact Or.inr ⟨b, c, rfl, h2, h3, h4, Nat.lt_of_lt_of_le h5 hg.size, fun j u hu => hg.cell (h6 j u hu) (fun e => hne (Option.some.inj e))⟩
/-- The token's seven cells. -/
theorem tok_cells {wx : World} {b : Nat} {t : TD} (h : ∀ j u, (toksCells [t])[j]? = some u → wx.cell? ⟨b, j, none⟩ = some u) : wx.cell? ⟨b, 0, none⟩ = some (.pointer t.p) ∧ wx.cell? ⟨b, 1, none⟩ = some (.string t.s) ∧ wx.cell? ⟨b, 2, none⟩ = some (.int .i32 0) ∧ wx.cell? ⟨b, 3, none⟩ = some (.int .u32 0) ∧ wx.cell? ⟨b, 4, none⟩ = some (.int .u16 t.o) ∧ wx.cell? ⟨b, 5, none⟩ = some (.int .u8 t.k) ∧ wx.cell? ⟨b, 6, none⟩ = some (.int .u8 0) :=
  ⟨h 0 _ rfl, h 1 _ rfl, h 2 _ rfl, h 3 _ rfl, h 4 _ rfl, h 5 _ rfl, h 6 _ rfl⟩
theorem own_block' {w w' : World} {base : Nat} {e : TypeId} {size g n cap : Nat} {xs : List Value} (h : w.ownsRow base e size (.slice (some ⟨g, 0, none⟩) n cap) n xs) (hb : w'.heap[g]? = w.heap[g]?) : w'.ownsRow base e size (.slice (some ⟨g, 0, none⟩) n cap) n xs := by
  refine ⟨h.1, ?_⟩
  rcases h.2 with ⟨h', _⟩ | ⟨g', cap', cur, h', h1, hg, h2⟩
  · cases h'
  · have h3 := h'
    simp only [Value.slice.injEq, Option.some.injEq, Addr.mk.injEq, and_true, true_and] at h'
    obtain ⟨rfl, rfl⟩ := h'
    exact Or.inr ⟨_, _, cur, h3, h1, hb.trans hg, h2⟩
theorem s2_drew {W w1 : World} {p1 p2 : Addr} {v1 v2 : Value} (h : Below W.heap.size W w1 ∧ w1.cell? p1 = some v1 ∧ w1.cell? p2 = some v2) : Below W.heap.size W w1.drew ∧ w1.drew.cell? p1 = some v1 ∧ w1.drew.cell? p2 = some v2 := ⟨h.1.drew, h.2⟩
theorem s2_call {W w1 w2 : World} {p1 p2 : Addr} {v1 v2 : Value} (h : Below W.heap.size W w1 ∧ w1.cell? p1 = some v1 ∧ w1.cell? p2 = some v2) (hb : Below w1.heap.size w1 w2) : Below W.heap.size W w2 ∧ w2.cell? p1 = some v1 ∧ w2.cell? p2 = some v2 :=
  ⟨h.1.trans (hb.mono h.1.size), (hb.cell (block_lt_of_cell h.2.1)).trans h.2.1, (hb.cell (block_lt_of_cell h.2.2)).trans h.2.2⟩
theorem pv_fin {kind : Int} {ss : List SD} (h : ∀ s ∈ ss, Good kind s) {i : Nat} (hi : i < ss.length) (hn : nanB (pv kind ss i).2 = false) : FinLe 54 (pv kind ss i).2 := by
  unfold pv at hn ⊢
  have e : ss.getD i default = ss[i] := by rw [List.getD_eq_getElem?_getD, List.getElem?_eq_getElem hi]; rfl
  rw [e] at hn ⊢
  exact posVal_fin (h _ (List.getElem_mem hi)) hn
theorem posAt_form {w : World} {v : Value} {ts : List TD} (h : PosAt w v ts) : ∃ a l c, v = .slice a l c := by
  rcases h with ⟨_, rfl⟩ | ⟨b, c, rfl, _⟩
  · exact ⟨_, _, _, rfl⟩
  · exact ⟨_, _, _, rfl⟩
theorem st_all (a : Option Addr) (l c : Nat) (m : Bool) : (stA (.slice a l c) redT (midT m)).all (·.oneCell') = true := by kernel_rfl
structure Stops (kind : Int) (base B n c : Nat) (ss : List SD) (w : World) : Prop where
  len : ss.length = n
  row : w.ownsRow base 39 15 (.slice (some ⟨B, 0, none⟩) n c) n (stCells ss)
  ok : ∀ s ∈ ss, PosAt w s.v s.ts ∧ Good kind s ∧ ∀ b o l c, s.v = .slice (some ⟨b, o, none⟩) l c → b ≠ B
/-- A stop's positions as they lie there now. -/
theorem stop_at {kind : Int} {base B n c : Nat} {ss : List SD} {w wx : World} (h : Stops kind base B n c ss w) (C : Nat → Bool) (hrow : wx.ownsRow base 39 15 (.slice (some ⟨B, 0, none⟩) n c) n (stCells (clr C ss))) (hg : w.grownBy wx (some B)) (i : Nat) (hi : i < n) :
    ∃ vv tt, wx.cell? ⟨B, i * 15, none⟩ = some vv ∧ PosAt wx vv tt ∧ (if C i then [] else (ss.getD i default).ts) = tt ∧ tt.length ≤ 2 ∧ ∀ t ∈ tt, (t.k = 34 → 0 < t.s.size) ∧ (t.k = 26 → t.o ≤ t.s.size) ∧ t.s.size ≤ 100 := by
  have hil : i < ss.length := by rw [h.len]; exact hi
  have e : ss.getD i default = ss[i] := by rw [List.getD_eq_getElem?_getD, List.getElem?_eq_getElem hil]; rfl
  obtain ⟨h1, h2, h3⟩ := h.ok ss[i] (List.getElem_mem hil)
  have hc := (hrow.cellAt (i * 15) (by omega)).trans (st_at (clr C ss) i 0 (by rw [clr_len]; exact hil) (by decide))
  rw [clr_get C ss i hil] at hc
  rw [e]
  cases hC : C i with
  | true =>
    rw [hC] at hc
    exact ⟨.slice none 0 0, [], hc, Or.inl ⟨rfl, rfl⟩, rfl, by simp, fun t ht => by cases ht⟩
  | false =>
    rw [hC] at hc
    exact ⟨ss[i].v, ss[i].ts, hc, h1.grown hg h3, rfl, h2.len, fun t ht => ⟨(h2.tok t ht).2.1, (h2.tok t ht).2.2.1, (h2.tok t ht).2.2.2.2.2⟩⟩
set_option maxRecDepth 100000 in
set_option maxHeartbeats 20000000 in
theorem rip_any (kind : Int) (base B n c : Nat) (ss : List SD) (w : World) (h : Stops kind base B n c ss w) (h0 : 0 < n) (hn : n ≤ 256) (hpv : PowVars w) :
    Calls Tryz.prog 13 #[.int .u8 kind, .slice (some ⟨B, 0, none⟩) n c] w (fun e w' => ∃ C, e = .returned (.slice (some ⟨B, 0, none⟩) n c) ∧ Pass kind ss C ∧ w'.ownsRow base 39 15 (.slice (some ⟨B, 0, none⟩) n c) n (stCells (clr C ss)) ∧ w.grownBy w' (some B)) := by
  obtain ⟨i0, hi, hz0, hz1, hz2⟩ := info_parts val_info
  have HS := Lib.hid h
  have HV := Lib.hid hpv
  clear h hpv
  have hBl : B < w.heap.size := by
    rcases HS.out.row.2 with ⟨h', _⟩ | ⟨g', cap', cur, h', _, hg, _⟩
    · simp at h'
    · simp only [Value.slice.injEq, Option.some.injEq, Addr.mk.injEq, and_true, true_and] at h'
      obtain ⟨rfl, rfl⟩ := h'
      exact (Array.getElem?_eq_some_iff.1 hg).1
  have hne : ((n : Int) == 0) = false := by rw [beq_eq_false_iff_ne]; omega
  go_enter Tryz.func13, Tryz.ntmps13
  go_wp2_with (at_make; refine wpList_make_full _ rfl _ _ 52 rfl w.heap.size 57 i0 _ 2 Tryz.underlying52 hi hz0 hz1 .i64 .i64 _ _ n rfl rfl rfl rfl (by rw [hz2]; omega) (by unfold maxLen; omega) (Nat.le_refl _) ?_; intro w1 hown1 hg1)
  have hb1 : Below w.heap.size w w1 := (Below.refl _ _).grown hg1 (Nat.le_refl _) (fun k h => by cases h)
  have hc : (Value.agg #[.string { data := #[] }, .float .f64 0]).cells = #[.string { data := #[] }, .float .f64 0] := by kernel_rfl
  rw [hc] at hown1
  have HO := Lib.hid (And.intro hown1 hb1)
  clear hown1 hg1 hb1 hc
  go_wp2_with fail
  go_loopw [29] (fun i wr => ∃ (k : Nat) (xs : List Value), k ≤ n ∧ i = .int .i64 k ∧ wr.ownsRow w.heap.size 57 2 (.slice (some ⟨w.heap.size, 0, none⟩) n n) n xs ∧ Vals kind ss n k xs ∧ Below w.heap.size w wr) (fun i _ => n - (intOf i).toNat)
  case atStart => exact ⟨0, _, Nat.zero_le _, rfl, HO.out.1, vals_zero _ _ _, HO.out.2⟩
  case round =>
    obtain ⟨k, xs, hk, rfl, hown, hvl, hb⟩ := hrel
    by_cases hlt : k < n
    · have hkl : k < ss.length := by rw [HS.out.len]; exact hlt
      obtain ⟨hpos, hgood, hbb⟩ := HS.out.ok ss[k] (List.getElem_mem hkl)
      have hrg : wr.rangeAt B (k * 15) ss[k].cs.toList := fun j u hu => by
        have hj : j < 15 := (List.getElem?_eq_some_iff.1 hu).1
        rw [hb.cell (p := ⟨B, k * 15 + j, none⟩) hBl, HS.out.row.cellAt _ (by omega), st_at ss k j hkl hj, hu]
      have hpvk : pv kind ss k = posVal kind ss[k].ts := by
        unfold pv
        rw [List.getD_eq_getElem?_getD, List.getElem?_eq_getElem hkl]
        rfl
      have HRG := Lib.hid hrg
      have HG := Lib.hid (And.intro hgood (And.intro hbb (hpos.below hb)))
      have HVL := Lib.hid hvl
      have HOW := Lib.hid hown
      have HB := Lib.hid hb
      have HPV := Lib.hid hpvk
      have u1 := hown.frozenAt (k * 2 + 1)
      clear hpos hgood hbb hrg hpvk hvl hb
      generalize ss[k] = s at *
      clear hkl
      obtain ⟨v, ts, m⟩ := s
      generalize hcs : SD.cs ⟨v, ts, m⟩ = cs at *
      have hcz : cs.size = 15 := by rw [← hcs]; rfl
      have hc0 : cs[0]? = some v := by rw [← hcs]; rfl
      have hall : ∀ (i : Nat) (x : i < cs.size), cs[i].oneCell' = true := by
        have h9 : cs.all (·.oneCell') = true := by
          obtain ⟨a, l, c, rfl⟩ := posAt_form HG.out.2.2
          rw [← hcs]
          exact st_all a l c m
        exact fun i hi => Array.all_eq_true.1 h9 i hi
      have hex : ∃ a, Tryz.prog.info? 39 = some a ∧ a.size = cs.size := by rw [hcz]; simpa using st_size
      have HCZ := Lib.hid (And.intro hcz (And.intro hex hall))
      clear hcs hcz hex hall
      go_upto_region 7 with (first
        | (refine wpList_load_mid rfl 39 (.tmp 32) rfl B _ rfl cs.toList _ ?c1 Tryz.underlying39 rfl ?c3 ?c2)
        | (refine wpList_store_rowTo rfl 39 (.tmp 7) (.tmp 33) rfl rfl wr.heap.size cs rfl rfl 39 _ (heap_alloc_new wr _) ?c4 ?c5 ?c6 ?c7))
      · exact HRG.out
      · exact HCZ.out.2.1
      · exact HCZ.out.2.1
      · exact HCZ.out.1.symm
      · exact HCZ.out.2.2
      have r7 := setRow_heap _ wr.heap.size _ cs 39 (0, 0) (heap_alloc_new wr (.cells zSt 39))
      have b7 : Below wr.heap.size wr ((wr.alloc (.cells zSt 39)).setRow wr.heap.size cs) := below_setRow ((Below.refl _ _).alloc (Nat.le_refl _) _) (Nat.le_refl _) _
      generalize (wr.alloc (.cells zSt 39)).setRow wr.heap.size cs = w2 at *
      have c7 := cell_of_row _ _ 0 _ _ _ r7
      rw [hc0] at c7
      have HX := Lib.hid b7
      have hc7l := block_lt_of_cell c7
      have hP : PosAt w2 v ts := HG.out.2.2.below b7
      clear r7 b7 hc0 HCZ HRG
      match ts, HG, HPV, hP with
      | [], HG, HPV, hP =>
        rcases hP with ⟨_, rfl⟩ | ⟨b, c, _, hnil, _⟩
        · skip
          go_wp2_with fail
          refine (nan_any _).mono ?_
          rintro e w3 ⟨rfl, rfl⟩
          go_wp2_with fail
          refine (newf_any _ _).mono ?_
          rintro e w4 ⟨rfl, hb4⟩
          have H4 := Lib.hid (HX.out.trans (hb4.mono HX.out.size))
          clear hb4
          have ho4 := own_below' HOW.out H4.out
          have hst4 := ho4.stored (k * 2 + 1) (.float .f64 nanW)
          obtain ⟨x0, hx0⟩ := (HVL.out.2 k (Nat.le_refl _) hlt).2
          have c9 := (ho4.cellAt (k * 2 + 1) (by omega)).trans hx0
          have f9 := ho4.frozenAt (k * 2 + 1)
          have hV := HVL.out.one hlt hown.1 (by rw [HPV.out]; rfl)
          have e9 : (pv kind ss k).2 = nanW := by rw [HPV.out]; rfl
          rw [e9] at hV
          have HF := Lib.hid (And.intro hst4.1 (And.intro hV ((HB.out.trans (H4.out.mono HB.out.size)).setCell (p := ⟨w.heap.size, k * 2 + 1, none⟩) (Nat.le_refl _) (.float .f64 nanW))))
          have hst := fun (ad : Addr) (md : Mode) (wx : World) => run_store (P := Tryz.prog) wx ad (.float .f64 9221120237041090561) md rfl
          clear hst4 hV ho4 hown hx0
          go_wp2_with fail
          exact ⟨⟨k + 1, _, by omega, by go_num, HF.out.1, HF.out.2.1, HF.out.2.2⟩, by simp [intOf]; omega⟩
        · exact absurd rfl hnil
      | [t], HG, HPV, hP =>
        rcases hP with ⟨hnil, _⟩ | ⟨b, cc, rfl, _, hlc, hcm, hbl, hcell⟩
        · cases hnil
        · have htf := valOf_ok (HG.out.1.tok t (List.mem_singleton.2 rfl)).1
          have hrt : w2.rangeAt b 0 t.cs.toList := fun j u hu => by
            rw [Nat.zero_add]
            refine hcell j u ?_
            rw [← hu]
            simp [toksCells]
          have hl1 : (([t] : List TD).length : Int) = 1 := rfl
          have hpo : posVal kind [t] = if (valOf kind t).2.2 then ((valOf kind t).2.1, (valOf kind t).1) else ({ data := #[] }, nanW) := rfl
          generalize valOf kind t = p at *
          obtain ⟨r, u, ok⟩ := p
          dsimp only at hpo
          have htf1 : ∀ wx, PowVars wx → Calls Tryz.prog 17 #[.agg t.cs, .int .u8 kind] wx (Got r u ok wx) := htf.1
          have HTF := Lib.hid htf1
          clear htf1
          have HRT := Lib.hid hrt
          clear htf hrt hcell
          generalize htc : t.cs = tcs at *
          go_wp2_with (first
            | (refine wpList_load_mid rfl 37 (.tmp 41) rfl b 0 rfl tcs.toList _ ?d1 Tryz.underlying37 rfl ?d3 ?d2))
          · exact HRT.out
          · have hsz : tcs.size = 7 := by rw [← htc]; rfl
            rw [hsz]
            simpa using tok_size
          refine (HTF.out w2 (HV.out.below (HB.out.trans (HX.out.mono HB.out.size)))).mono ?_
          rintro e w3 ⟨rfl, hb3⟩
          have hb3' := HX.out.trans (hb3.mono HX.out.size)
          have c73 := (hb3.cell hc7l).trans c7
          cases ok with
          | false =>
            have hpn : posVal kind [t] = ({ data := #[] }, nanW) := by rw [hpo]; rfl
            have HX2 := Lib.hid (hb3'.alloc hb3'.size (.cells #[.string u, .float .f64 r] 57))
            clear hb3 hb3' hpo
            have hst2 := fun (ad : Addr) (md : Mode) (wx : World) => run_store (P := Tryz.prog) wx ad (.float .f64 r) md rfl
            go_wp2_with fail
            refine (nan_any _).mono ?_
            rintro e w3 ⟨rfl, rfl⟩
            go_wp2_with fail
            refine (newf_any _ _).mono ?_
            rintro e w4 ⟨rfl, hb4⟩
            have H4 := Lib.hid (HX2.out.trans (hb4.mono HX2.out.size))
            clear hb4
            have ho4 := own_below' HOW.out H4.out
            have hst4 := ho4.stored (k * 2 + 1) (.float .f64 nanW)
            obtain ⟨x0, hx0⟩ := (HVL.out.2 k (Nat.le_refl _) hlt).2
            have c9 := (ho4.cellAt (k * 2 + 1) (by omega)).trans hx0
            have f9 := ho4.frozenAt (k * 2 + 1)
            have hV := HVL.out.one hlt hown.1 (by rw [HPV.out, hpn])
            have e9 : (pv kind ss k).2 = nanW := by rw [HPV.out, hpn]
            rw [e9] at hV
            have HF := Lib.hid (And.intro hst4.1 (And.intro hV ((HB.out.trans (H4.out.mono HB.out.size)).setCell (p := ⟨w.heap.size, k * 2 + 1, none⟩) (Nat.le_refl _) (.float .f64 nanW))))
            have hst := fun (ad : Addr) (md : Mode) (wx : World) => run_store (P := Tryz.prog) wx ad (.float .f64 9221120237041090561) md rfl
            clear hst4 hV ho4 hown hx0
            go_wp2_with fail
            exact ⟨⟨k + 1, _, by omega, by go_num, HF.out.1, HF.out.2.1, HF.out.2.2⟩, by simp [intOf]; omega⟩
          | true =>
            have hpn : posVal kind [t] = (u, r) := by rw [hpo]; rfl
            have HX2 := Lib.hid hb3'
            clear hb3 hb3' hpo
            have ho4 := own_below' HOW.out HX2.out
            have hs1 := ho4.stored (k * 2) (.string u)
            have hs2 := hs1.1.stored (k * 2 + 1) (.float .f64 r)
            obtain ⟨hz1, x0, hz2⟩ := HVL.out.2 k (Nat.le_refl _) hlt
            have c9 := (ho4.cellAt (k * 2) (by omega)).trans hz1
            have c10 := (ho4.cellAt (k * 2 + 1) (by omega)).trans hz2
            have f9 := ho4.frozenAt (k * 2)
            have f10 := ho4.frozenAt (k * 2 + 1)
            have c9l := block_lt_of_cell c9
            have hV := HVL.out.two hlt hown.1
            rw [HPV.out, hpn] at hV
            have hbw := ((HB.out.trans (HX2.out.mono HB.out.size)).setCell (p := ⟨w.heap.size, k * 2, none⟩) (Nat.le_refl _) (.string u)).setCell (p := ⟨w.heap.size, k * 2 + 1, none⟩) (Nat.le_refl _) (.float .f64 r)
            have HF := Lib.hid (And.intro (hs2.1.alloc (.cells #[.string u, .float .f64 r] 57)) (And.intro hV (hbw.alloc hbw.size (.cells #[.string u, .float .f64 r] 57))))
            have hst := fun (ad : Addr) (md : Mode) (wx : World) => run_store (P := Tryz.prog) wx ad (.float .f64 r) md rfl
            clear ho4 hs1 hs2 hz1 hz2 hV hbw hown
            go_wp2_with fail
            exact ⟨⟨k + 1, _, by omega, by go_num, HF.out.1, HF.out.2.1, HF.out.2.2⟩, by simp [intOf]; omega⟩
      | [t1, t2], HG, HPV, hP =>
        rcases hP with ⟨hnil, _⟩ | ⟨b, c, rfl, _⟩
        · cases hnil
        · have hl2 : (([t1, t2] : List TD).length : Int) = 2 := rfl
          go_wp2_with fail
          refine (nan_any _).mono ?_
          rintro e w3 ⟨rfl, rfl⟩
          go_wp2_with fail
          refine (newf_any _ _).mono ?_
          rintro e w4 ⟨rfl, hb4⟩
          have H4 := Lib.hid (HX.out.trans (hb4.mono HX.out.size))
          clear hb4
          have ho4 := own_below' HOW.out H4.out
          have hst4 := ho4.stored (k * 2 + 1) (.float .f64 nanW)
          obtain ⟨x0, hx0⟩ := (HVL.out.2 k (Nat.le_refl _) hlt).2
          have c9 := (ho4.cellAt (k * 2 + 1) (by omega)).trans hx0
          have f9 := ho4.frozenAt (k * 2 + 1)
          have hV := HVL.out.one hlt hown.1 (by rw [HPV.out]; rfl)
          have e9 : (pv kind ss k).2 = nanW := by rw [HPV.out]; rfl
          rw [e9] at hV
          have HF := Lib.hid (And.intro hst4.1 (And.intro hV ((HB.out.trans (H4.out.mono HB.out.size)).setCell (p := ⟨w.heap.size, k * 2 + 1, none⟩) (Nat.le_refl _) (.float .f64 nanW))))
          have hst := fun (ad : Addr) (md : Mode) (wx : World) => run_store (P := Tryz.prog) wx ad (.float .f64 9221120237041090561) md rfl
          clear hst4 hV ho4 hown hx0
          go_wp2_with fail
          exact ⟨⟨k + 1, _, by omega, by go_num, HF.out.1, HF.out.2.1, HF.out.2.2⟩, by simp [intOf]; omega⟩
      | _ :: _ :: _ :: _, HG, _, _ =>
        have := HG.out.1.len
        simp at this
    · have hnk : n = k := by omega
      subst hnk
      have HVL := Lib.hid hvl
      have HPB := Lib.hid hown
      have HB := Lib.hid hb
      have HL := Lib.hid HS.out.len
      clear hvl hown hb
      go_wp2_with fail
      go_loopw [10] (fun st wx => ∃ (s : Nat) (C : Nat → Bool), s ≤ n ∧ st = .int .i64 s ∧ Inv kind ss C s ∧ wx.ownsRow base 39 15 (.slice (some ⟨B, 0, none⟩) n c) n (stCells (clr C ss)) ∧ wx.ownsRow w.heap.size 57 2 (.slice (some ⟨w.heap.size, 0, none⟩) n n) n xs ∧ w.grownBy wx (some B)) (fun st _ => n - (intOf st).toNat)
      case atStart =>
        refine ⟨0, fun _ => false, Nat.zero_le _, rfl, Inv.zero _ _, ?_, HPB.out, ⟨HB.out.os, HB.out.tape, HB.out.output, HB.out.size, fun k hk _ => HB.out.block k hk⟩⟩
        rw [clr_none]
        exact own_below' HS.out.row HB.out
      case round =>
        obtain ⟨s, C, hs, rfl, hinv, hrow, hpb, hg⟩ := hrel
        have HI := Lib.hid hinv
        have HR := Lib.hid hrow
        have HP := Lib.hid hpb
        have HG := Lib.hid hg
        by_cases hsn : s < n
        · have c0 := (hpb.cellAt (s * 2) (by omega)).trans (HVL.out.1 s hsn).1
          have c1 := (hpb.cellAt (s * 2 + 1) (by omega)).trans (HVL.out.1 s hsn).2
          have c0l := block_lt_of_cell c0
          clear hinv hrow hpb hg
          obtain ⟨su, hsu⟩ : ∃ su, (pv kind ss s).1 = su := ⟨_, rfl⟩
          obtain ⟨sx, hsx⟩ : ∃ sx, (pv kind ss s).2 = sx := ⟨_, rfl⟩
          rw [hsu] at c0
          rw [hsx] at c1
          have HSV := Lib.hid (And.intro hsu hsx)
          clear hsu hsx
          have hst := fun (ad : Addr) (md : Mode) (wx : World) => run_store (P := Tryz.prog) wx ad (.float .f64 sx) md rfl
          go_wp2_with fail
          refine (fnan_any sx _).mono ?_
          rintro e w2 ⟨rfl, hb2⟩
          have hw1 : Below wr.heap.size wr (wr.alloc (.cells #[.string su, .float .f64 sx] 57)) := (Below.refl _ _).alloc (Nat.le_refl _) _
          have r11 := (hb2.block wr.heap.size (by simp)).trans (heap_alloc_new wr (.cells #[.string su, .float .f64 sx] 57))
          have hb12 := hw1.trans (hb2.mono hw1.size)
          have d0 := cell_of_row _ _ 0 _ _ _ r11
          have d1 := cell_of_row _ _ 1 _ _ _ r11
          simp only [List.getElem?_toArray, List.getElem?_cons_zero, List.getElem?_cons_succ] at d0 d1
          have HW := Lib.hid hb12
          have H2 := Lib.hid (And.intro (own_below' HR.out hb12) (And.intro (own_below' HP.out hb12) (show w.grownBy w2 (some B) from ⟨hb12.os.trans HG.out.os, hb12.tape.trans HG.out.tape, hb12.output.trans HG.out.output, Nat.le_trans HG.out.size hb12.size, fun k hk hne => (hb12.block k (Nat.lt_of_lt_of_le hk HG.out.size)).trans (HG.out.block k hk hne)⟩)))
          clear c0 c1 hb2 hw1 hb12
          generalize hnb : (FloatKind.f64.format.order sx sx != some Ordering.eq) = nb
          have HNB := Lib.hid (show nanB (pv kind ss s).2 = nb by rw [HSV.out.2]; exact hnb)
          clear hnb
          cases nb with
          | true =>
            go_wp2_with fail
            go_roundw
            case rel => exact ⟨s + 1, C, by omega, by go_num, HI.out.skip (Or.inl HNB.out), H2.out.1, H2.out.2.1, H2.out.2.2⟩
            case measure => simp [intOf]; omega
          | false =>
            go_wp2_with fail
            go_step3
            go_wp2_with fail
            go_step3
            go_upto_block 4 with fail
            go_cut [12] (fun te wx => ∃ e : Nat, te = .int .i64 e ∧ s < e ∧ e ≤ n ∧ (∀ e', s < e' → e' < e → Ext kind ss s e') ∧ ¬ Ext kind ss s e ∧ Below w2.heap.size w2 wx)
            case first =>
              go_wp2_with fail
              go_loopw [12] (fun te wx => ∃ e1 : Nat, te = .int .i64 ((e1 : Int) + 1) ∧ s ≤ e1 ∧ e1 + 1 ≤ n ∧ (∀ e', s < e' → e' < e1 + 1 → Ext kind ss s e') ∧ Below w2.heap.size w2 wx) (fun te _ => n - (intOf te).toNat)
              case atStart => exact ⟨s, rfl, Nat.le_refl _, by omega, fun e' h1 h2 => by omega, Below.refl _ _⟩
              case round =>
                obtain ⟨e1, rfl, hse, hen, hext, hbx⟩ := hrel
                have he1 : e1 < ss.length := by rw [HL.out]; omega
                have hmk := ((own_below' H2.out.1 hbx).cellAt (e1 * 15 + 13) (by omega)).trans (st_at (clr C ss) e1 13 (by rw [clr_len]; exact he1) (by decide))
                have hmk2 : (clr C ss)[e1]'(by rw [clr_len]; exact he1) = if C e1 then ss[e1].nil else ss[e1] := clr_get C ss e1 he1
                have hmd : md ss e1 = ss[e1].m := by unfold md; rw [List.getD_eq_getElem?_getD, List.getElem?_eq_getElem he1]; rfl
                have hm13 : wr.cell? ⟨B, e1 * 15 + 13, none⟩ = some (.int .u8 (midT (md ss e1)).k) := by
                  rw [hmk, hmk2, hmd]
                  cases C e1 <;> rfl
                clear hmk hmk2 hmd
                have HX := Lib.hid (And.intro hext hbx)
                have hBl2 : w2.heap.size ≤ wr.heap.size := hbx.size
                have d0' := (hbx.cell (block_lt_of_cell d0)).trans d0
                have d1' := (hbx.cell (block_lt_of_cell d1)).trans d1
                have hpbx := own_below' H2.out.2.1 hbx
                clear hext hbx
                by_cases hm : md ss e1 = true
                · rw [hm] at hm13
                  have hm13' : wr.cell? ⟨B, e1 * 15 + 13, none⟩ = some (.int .u8 34) := hm13
                  clear hm13
                  have HN := Lib.hid (show ¬ Ext kind ss s (e1 + 1) from fun h => by have := h.1; rw [Nat.add_sub_cancel, hm] at this; cases this)
                  clear hm
                  go_wp2_with fail
                  go_meet
                  exact ⟨e1 + 1, by go_num, by omega, by omega, HX.out.1, HN.out, HX.out.2⟩
                · have hm' : md ss e1 = false := by simpa using hm
                  rw [hm'] at hm13
                  have hm13' : wr.cell? ⟨B, e1 * 15 + 13, none⟩ = some (.int .u8 0) := hm13
                  clear hm13 hm
                  by_cases hen2 : e1 + 1 < n
                  · have ce0 := (hpbx.cellAt ((e1 + 1) * 2) (by omega)).trans (HVL.out.1 (e1 + 1) hen2).1
                    have ce1 := (hpbx.cellAt ((e1 + 1) * 2 + 1) (by omega)).trans (HVL.out.1 (e1 + 1) hen2).2
                    have ce0l := block_lt_of_cell ce0
                    obtain ⟨eu, heu⟩ : ∃ eu, (pv kind ss (e1 + 1)).1 = eu := ⟨_, rfl⟩
                    obtain ⟨ex, hex⟩ : ∃ ex, (pv kind ss (e1 + 1)).2 = ex := ⟨_, rfl⟩
                    rw [heu] at ce0
                    rw [hex] at ce1
                    have HEV := Lib.hid (And.intro heu (And.intro hex hm'))
                    have HPX := Lib.hid hpbx
                    clear heu hex hm' hpbx
                    have hste := fun (ad : Addr) (md : Mode) (wx : World) => run_store (P := Tryz.prog) wx ad (.float .f64 ex) md rfl
                    have d0l := block_lt_of_cell d0'
                    go_wp2_with fail
                    refine (fnan_any ex _).mono ?_
                    rintro e w3 ⟨rfl, hb3⟩
                    have hw3 : Below wr.heap.size wr (wr.alloc (.cells #[.string eu, .float .f64 ex] 57)) := (Below.refl _ _).alloc (Nat.le_refl _) _
                    have r13 := (hb3.block wr.heap.size (by simp)).trans (heap_alloc_new wr (.cells #[.string eu, .float .f64 ex] 57))
                    have hb13 := hw3.trans (hb3.mono hw3.size)
                    have g0 := cell_of_row _ _ 0 _ _ _ r13
                    have g1 := cell_of_row _ _ 1 _ _ _ r13
                    simp only [List.getElem?_toArray, List.getElem?_cons_zero, List.getElem?_cons_succ] at g0 g1
                    have H3 := Lib.hid (And.intro (own_below' HPX.out hb13) (HX.out.2.trans (hb13.mono HX.out.2.size)))
                    have d03 := (hb13.cell d0l).trans d0'
                    have d13 := (hb13.cell (block_lt_of_cell d1')).trans d1'
                    have hw3l := hb13.size
                    clear hb3 hw3 hb13 r13 ce0 ce1
                    generalize hnb : (FloatKind.f64.format.order ex ex != some Ordering.eq) = nb
                    have HNB2 := Lib.hid (show nanB (pv kind ss (e1 + 1)).2 = nb by rw [HEV.out.2.1]; exact hnb)
                    clear hnb
                    cases nb with
                    | true =>
                      have HN := Lib.hid (show ¬ Ext kind ss s (e1 + 1) from fun h => absurd (HNB2.out.symm.trans h.2.2.1) (by decide))
                      go_wp2_with fail
                      go_meet
                      exact ⟨e1 + 1, by go_num, by omega, by omega, HX.out.1, HN.out, H3.out.2⟩
                    | false =>
                      cases heq : (eu.toList == su.toList) with
                      | true =>
                        have hes : eu = su := by
                          have h9 := beq_iff_eq.1 heq
                          rw [Lib.toList_data, Lib.toList_data] at h9
                          cases eu
                          cases su
                          exact congrArg ByteArray.mk (Array.toList_inj.1 h9)
                        have HEQ := Lib.hid hes
                        clear hes
                        go_wp2_with fail
                        go_loopw [14] (fun ti wz => ∃ i : Nat, ti = .int .i64 i ∧ s < i ∧ i ≤ e1 + 1 ∧ (∀ j, s < j → j < i → farB (pv kind ss s).2 (pv kind ss (e1 + 1)).2 (pv kind ss j).2 ((j : Int) - s) (((e1 + 1 : Nat) : Int) - s) = false) ∧ Below w3.heap.size w3 wz) (fun ti _ => e1 + 1 - (intOf ti).toNat)
                        case atStart => exact ⟨s + 1, by go_num, by omega, by omega, fun j h1 h2 => by omega, Below.refl _ _⟩
                        case round =>
                          obtain ⟨i, rfl, hsi, hie, hfar, hbz⟩ := hrel
                          have HFB := Lib.hid (And.intro hfar hbz)
                          by_cases hi2 : i < e1 + 1
                          · have hgd : ∀ s ∈ ss, Good kind s := fun s hs => (HS.out.ok s hs).2.1
                            obtain ⟨ix, hix⟩ : ∃ ix, (pv kind ss i).2 = ix := ⟨_, rfl⟩
                            have fa := pv_fin hgd (i := s) (by rw [HL.out]; omega) HNB.out
                            have fb := pv_fin hgd (i := e1 + 1) (by rw [HL.out]; omega) HNB2.out
                            have fx := pv_fin hgd (i := i) (by rw [HL.out]; omega) (HX.out.1 i hsi hi2).2.2.1
                            obtain ⟨t, d, m, l, q, h1, h2, h3, h4, h5, hfq⟩ := far_chain fa fb fx (i - s) (e1 + 1 - s) (by omega) (by omega) (by omega)
                            rw [show ((i - s : Nat) : Int) = (i : Int) - s by omega, show ((e1 + 1 - s : Nat) : Int) = (e1 : Int) + 1 - s by omega] at h1
                            rw [show ((i - s : Nat) : Int) = (i : Int) - s by omega, show ((e1 + 1 - s : Nat) : Int) = ((e1 + 1 : Nat) : Int) - s by omega] at hfq
                            rw [HSV.out.2, HEV.out.2.1] at h2
                            rw [HSV.out.2] at h4
                            rw [hix] at h5
                            have HFQ := Lib.hid hfq
                            have z3 := ((own_below' H3.out.1 hbz).cellAt (i * 2 + 1) (by omega)).trans (HVL.out.1 i (by omega)).2
                            rw [hix] at z3
                            have z1 := (hbz.cell (block_lt_of_cell d13)).trans d13
                            have z2 := (hbz.cell (block_lt_of_cell g1)).trans g1
                            clear fa fb fx hfq hfar hbz hgd hix
                            go_wp2_with fail
                            refine (newf_any _ _).mono ?_
                            rintro e wa ⟨rfl, hba⟩
                            go_wp2_with fail
                            refine (fdiv_any _ _ t _ h1).mono ?_
                            rintro e wb ⟨rfl, hbb⟩
                            have hwb := hba.trans (hbb.mono hba.size)
                            have y1 := (hwb.cell (block_lt_of_cell z1)).trans z1
                            have y2 := (hwb.cell (block_lt_of_cell z2)).trans z2
                            have y3 := (hwb.cell (block_lt_of_cell z3)).trans z3
                            have yl1 := block_lt_of_cell y1
                            have yl2 := block_lt_of_cell y2
                            have yl3 := block_lt_of_cell y3
                            have HWB := Lib.hid (hwb.alloc hwb.size (.cells #[.float .f64 t] 55))
                            have hstt := fun (ad : Addr) (md : Mode) (wx : World) => run_store (P := Tryz.prog) wx ad (.float .f64 t) md rfl
                            clear hba hbb hwb z1 z2 z3
                            go_wp2_with fail
                            refine (lerp_any _ _ t d m l _ h2 h3 h4).mono ?_
                            rintro e wc2 ⟨rfl, hbc⟩
                            have hwc := HWB.out.trans (hbc.mono HWB.out.size)
                            have x3 := (hbc.cell (show w.heap.size < _ by simp; omega)).trans ((World.cell?_alloc_some wb _ _ (by rw [y3]; rfl)).trans y3)
                            have xl3 := block_lt_of_cell x3
                            have HWC := Lib.hid (hwc.alloc hwc.size (.cells #[.float .f64 l] 55))
                            have hstl := fun (ad : Addr) (md : Mode) (wx : World) => run_store (P := Tryz.prog) wx ad (.float .f64 l) md rfl
                            clear hbc hwc y1 y2 y3
                            have ib0 : (0 : Int) ≤ (i : Int) := by omega
                            have ib1 : (i : Int) < (n : Int) := by omega
                            go_upto_region 26 with fail
                            have x35 : (wc2.alloc (.cells #[.float .f64 l] 55)).cell? ⟨w.heap.size, i * 2 + 1, none⟩ = some (.float .f64 ix) := (World.cell?_alloc_some wc2 _ _ (by rw [x3]; rfl)).trans x3
                            have c16 : (wc2.alloc (.cells #[.float .f64 l] 55)).cell? ⟨wc2.heap.size, 0, none⟩ = some (.float .f64 l) := cell_of_row _ _ 0 _ _ _ (heap_alloc_new wc2 (.cells #[.float .f64 l] 55))
                            generalize wc2.alloc (.cells #[.float .f64 l] 55) = w5 at *
                            go_region_held3 (fun w' => Below w5.heap.size w5 w' ∧ w'.cell? ⟨w.heap.size, i * 2 + 1, none⟩ = some (.float .f64 ix) ∧ w'.cell? ⟨wc2.heap.size, 0, none⟩ = some (.float .f64 l)) (first | exact ⟨(Below.refl _ _).drew, x35, c16⟩ | exact s2_drew (by assumption) | exact s2_call (by assumption) (by assumption) | assumption) (first | (go_at_call 23; refine (fsub_any ix l q _ h5).mono ?_; rintro e w6 ⟨rfl, hb6⟩) | (go_at_call 24; refine (fabs_any q _).mono ?_; rintro e w7 ⟨rfl, hb7⟩) | (go_at_call 25; refine (fval_any _ _).mono ?_; rintro e w8 ⟨rfl, hb8⟩))
                            have HW8 := Lib.hid (HFB.out.2.trans ((HWC.out.trans ((‹Below w5.heap.size w5 w8 ∧ _›).1.mono HWC.out.size)).mono HFB.out.2.size))
                            generalize hgt : (FloatKind.f64.format.order (bits BinOp.andNot IntKind.u64 (q : Int) 9223372036854775808).toNat 4576918229304087675 == some Ordering.gt) = gt at *
                            have HGT := HFQ
                            clear HFQ hgt
                            cases gt with
                            | true =>
                              have HN := Lib.hid (show ¬ Ext kind ss s (e1 + 1) from fun h => absurd (HGT.out.symm.trans (h.2.2.2.2 i hsi hi2)) (by decide))
                              go_wp2_with fail
                              go_meet
                              exact ⟨e1 + 1, by go_num, by omega, by omega, HX.out.1, HN.out, H3.out.2.trans (HW8.out.mono H3.out.2.size)⟩
                            | false =>
                              go_wp2_with fail
                              exact ⟨⟨i + 1, by go_num, by omega, by omega, fun j a b => by
                                by_cases hj : j = i
                                · rw [hj]; exact HGT.out
                                · exact HFB.out.1 j a (by omega), HW8.out⟩, by simp [intOf]; omega⟩
                          · obtain rfl : i = e1 + 1 := by omega
                            have HEX := Lib.hid (show Ext kind ss s (e1 + 1) from ⟨by rw [Nat.add_sub_cancel]; exact HEV.out.2.2, by rw [HL.out]; exact hen2, HNB2.out, by rw [HEV.out.1, HSV.out.1]; exact HEQ.out, HFB.out.1⟩)
                            go_wp2_with fail
                            exact ⟨⟨e1 + 1, by go_num, by omega, by omega, fun e' a b => by
                              by_cases he : e' = e1 + 1
                              · rw [he]; exact HEX.out
                              · exact HX.out.1 e' a (by omega), H3.out.2.trans (HFB.out.2.mono H3.out.2.size)⟩, by simp [intOf]; omega⟩
                      | false =>
                        have HN := Lib.hid (show ¬ Ext kind ss s (e1 + 1) from fun h => by
                          have h9 : eu = su := by rw [← HEV.out.1, ← HSV.out.1]; exact h.2.2.2.1
                          rw [h9, beq_self_eq_true] at heq
                          cases heq)
                        go_wp2_with fail
                        go_meet
                        exact ⟨e1 + 1, by go_num, by omega, by omega, HX.out.1, HN.out, H3.out.2⟩
                  · have HN := Lib.hid (show ¬ Ext kind ss s (e1 + 1) from fun h => by have := h.2.1; rw [HL.out] at this; omega)
                    go_wp2_with fail
                    go_meet
                    exact ⟨e1 + 1, by go_num, by omega, by omega, HX.out.1, HN.out, HX.out.2⟩
            case rest =>
              obtain ⟨e, rfl, hse, hen, hext, hnot, hbx⟩ := hcut
              have H3 := Lib.hid (And.intro (own_below' H2.out.1 hbx) (And.intro (own_below' H2.out.2.1 hbx) (show w.grownBy wc (some B) from ⟨hbx.os.trans H2.out.2.2.os, hbx.tape.trans H2.out.2.2.tape, hbx.output.trans H2.out.2.2.output, Nat.le_trans H2.out.2.2.size hbx.size, fun k hk hne => (hbx.block k (Nat.lt_of_lt_of_le hk H2.out.2.2.size)).trans (H2.out.2.2.block k hk hne)⟩)))
              have HE := Lib.hid (And.intro hext hnot)
              clear hext hnot hbx
              by_cases h1 : s + 1 < e
              · go_wp2_with fail
                go_loopw [17] (fun iv wy => ∃ i : Nat, iv = .int .i64 i ∧ s < i ∧ i < e ∧ wy.ownsRow base 39 15 (.slice (some ⟨B, 0, none⟩) n c) n (stCells (clr (span C s i) ss)) ∧ wy.ownsRow w.heap.size 57 2 (.slice (some ⟨w.heap.size, 0, none⟩) n n) n xs ∧ w.grownBy wy (some B)) (fun iv _ => e - (intOf iv).toNat)
                case atStart => exact ⟨s + 1, by go_num, by omega, h1, by rw [span_start]; exact H3.out.1, H3.out.2.1, H3.out.2.2⟩
                case round =>
                  obtain ⟨i, rfl, hsi, hie, hro, hpb, hg⟩ := hrel
                  by_cases hi2 : i + 1 < e
                  · have hil : i < ss.length := by rw [HL.out]; omega
                    have c0 := (hro.cellAt (i * 15) (by omega)).trans (st_at (clr (span C s i) ss) i 0 (by rw [clr_len]; exact hil) (by decide))
                    have c0' : ∃ v0, wr.cell? ⟨B, i * 15, none⟩ = some v0 := ⟨_, c0⟩
                    obtain ⟨v0, c0'⟩ := c0'
                    have f0 := hro.frozenAt (i * 15)
                    have hst := hro.stored (i * 15) (.slice none 0 0)
                    rw [clr_set _ _ _ hil, span_step C s i hsi] at hst
                    have hne : B ≠ w.heap.size := by omega
                    have HF := Lib.hid (And.intro hst.1 (And.intro (show (wr.setCell ⟨B, i * 15, none⟩ (.slice none 0 0)).ownsRow w.heap.size 57 2 (.slice (some ⟨w.heap.size, 0, none⟩) n n) n xs from own_block' hpb (heap_setCell_other _ _ _ _ (show w.heap.size ≠ B by omega))) (hg.trans hst.2)))
                    clear c0 hro hpb hg hst
                    go_wp2_with fail
                    exact ⟨⟨i + 1, by go_num, by omega, by omega, HF.out.1, HF.out.2.1, HF.out.2.2⟩, by simp [intOf]; omega⟩
                  · obtain ⟨j, rfl⟩ : ∃ j, e = j + 1 := ⟨e - 1, by omega⟩
                    obtain rfl : i = j := by omega
                    have HQ := Lib.hid (And.intro hro (And.intro hpb hg))
                    have hrun := HI.out.run (by rw [HL.out]; exact hsn) HNB.out h1 HE.out.1 HE.out.2
                    rw [Nat.add_sub_cancel] at hrun
                    have HRUN := Lib.hid hrun
                    clear hro hpb hg hrun
                    go_wp2_with fail
                    go_roundw
                    case rel =>
                      (repeat apply Exists.intro)
                      exact ⟨⟨i, _, by omega, by go_num, HRUN.out, HQ.out.1, HQ.out.2.1, HQ.out.2.2⟩, rfl⟩
                    case measure => simp [intOf]; omega
              · have hes : e = s + 1 := by omega
                have hei : ¬ (1 : Int) < (e : Int) - (s : Int) := by omega
                have HX := Lib.hid (show ¬ Ext kind ss s (s + 1) by rw [← hes]; exact HE.out.2)
                clear h1 HE
                go_wp2_with fail
                exact ⟨⟨s + 1, C, by omega, by go_num, HI.out.skip (Or.inr HX.out), H3.out.1, H3.out.2.1, H3.out.2.2⟩, by simp [intOf]; omega⟩
        · have hsn2 : n = s := by omega
          subst hsn2
          clear hinv hrow hpb hg
          go_upto_region 35 with fail
          rename_i K2 a2 K1 a1
          have key : ∀ {u0 u2 u3 u4 u5 u6 u7 u8 u9 u10 u11 u12 u13 u14 u15 u16 u17 u18 u19 u20 u21 u22 u23 u24 u25 u26 u27 u28 u29 u30 u31 u32 u33 u34 u35 u36 u37 u38 u39 u40 u41 u42 u43 u44 u45 u46 u47 u48 u49 u50 u51 u52 u53 u54 u55 u56 u57 u58 u59 u60 u61 u62 u63 u64 u65 u66 u67 u68 u69 u70 u71 u72 u73 u74 u75 u76 u77 u78 u79 u80 u81 u82 u83 u84 u85 u86 u87 u88 u89 u90 u91 u92 u93 u94 u95 u96 u97 u98 u99 u100 u101 u102 u103 u104 u105 u106 u107 u108 u109 u110 u111 u112 u113 u114 u115 u116 u117 u118 u119 u120 u121 u122 u123 u124 u125 u126 u127 u128 u129 u130 u131 u132 u133 u134 u135 u136 u137 u138 u139 u140 u141 u142 u143 u144 u145 u146 u147 u148 u149 u150 u151 u152 u153 u154 u155 u156 u157 u158 u159 u160 u161 u162 u163 u164 u165 u166 u167 u168 u169 u170 u171 u172 u173 u174 u175 u176 u177 u178 u179 u180 u181 u182 u183 u184 u185 u186 u187 u188 u189 u190 u191 u192 u193 u194 u195 u196 u197 u198 u199 u200 u201 u202 u203 u204 u205 u206 u207 u208 u209 u210 u211 u212 u213 u214 u215 u216 u217 u218 u219 u220 u221 u222 u223 u224 : Value} (wx : World) (b1 : Bool), b1 = firstC (if C 0 then [] else (ss.getD 0 default).ts) → wx.ownsRow base 39 15 (.slice (some ⟨B, 0, none⟩) n c) n (stCells (clr (fun j => C j || (b1 && j == 0)) ss)) → w.grownBy wx (some B) → K2 ⟨#[u0, .slice (some ⟨B, 0, none⟩) n c, u2, u3, u4, u5, u6, u7, u8, u9, u10, u11, u12, u13, u14, u15, u16, u17, u18, u19, u20, u21, u22, u23, u24, u25, u26, u27, u28, u29, u30, u31, u32, u33, u34, u35, u36, u37, u38, u39, u40, u41, u42, u43, u44, u45, u46, u47, u48, u49, u50, u51, u52, u53, u54, u55, u56, u57, u58, u59, u60, u61, u62, u63, u64, u65, u66, u67, u68, u69, u70, u71, u72, u73, u74, u75, u76, u77, u78, u79, u80, u81, u82, u83, u84, u85, u86, u87, u88, u89, u90, u91, u92, u93, u94, u95, u96, u97, u98, u99, u100, u101, u102, u103, u104, u105, u106, u107, u108, u109, u110, u111, u112, u113, u114, u115, u116, u117, u118, u119, u120, u121, u122, u123, u124, u125, u126, u127, u128, u129, u130, u131, u132, u133, u134, u135, u136, u137, u138, u139, u140, u141, u142, u143, u144, u145, u146, u147, u148, u149, u150, u151, u152, u153, u154, u155, u156, u157, u158, u159, u160, u161, u162, u163, u164, u165, u166, u167, u168, u169, u170, u171, u172, u173, u174, u175, u176, u177, u178, u179, u180, u181, u182, u183, u184, u185, u186, u187, u188, u189, u190, u191, u192, u193, u194, u195, u196, u197, u198, u199, u200, u201, u202, u203, u204, u205, u206, u207, u208, u209, u210, u211, u212, u213, u214, u215, u216, u217, u218, u219, u220, u221, u222, u223, u224], []⟩ wx := by
            intro u0 u2 u3 u4 u5 u6 u7 u8 u9 u10 u11 u12 u13 u14 u15 u16 u17 u18 u19 u20 u21 u22 u23 u24 u25 u26 u27 u28 u29 u30 u31 u32 u33 u34 u35 u36 u37 u38 u39 u40 u41 u42 u43 u44 u45 u46 u47 u48 u49 u50 u51 u52 u53 u54 u55 u56 u57 u58 u59 u60 u61 u62 u63 u64 u65 u66 u67 u68 u69 u70 u71 u72 u73 u74 u75 u76 u77 u78 u79 u80 u81 u82 u83 u84 u85 u86 u87 u88 u89 u90 u91 u92 u93 u94 u95 u96 u97 u98 u99 u100 u101 u102 u103 u104 u105 u106 u107 u108 u109 u110 u111 u112 u113 u114 u115 u116 u117 u118 u119 u120 u121 u122 u123 u124 u125 u126 u127 u128 u129 u130 u131 u132 u133 u134 u135 u136 u137 u138 u139 u140 u141 u142 u143 u144 u145 u146 u147 u148 u149 u150 u151 u152 u153 u154 u155 u156 u157 u158 u159 u160 u161 u162 u163 u164 u165 u166 u167 u168 u169 u170 u171 u172 u173 u174 u175 u176 u177 u178 u179 u180 u181 u182 u183 u184 u185 u186 u187 u188 u189 u190 u191 u192 u193 u194 u195 u196 u197 u198 u199 u200 u201 u202 u203 u204 u205 u206 u207 u208 u209 u210 u211 u212 u213 u214 u215 u216 u217 u218 u219 u220 u221 u222 u223 u224 wx b1 hb1 hrow hg
            apply a2
            clear a2 a1
            have HC1 := Lib.hid (And.intro hb1 (And.intro hrow hg))
            obtain ⟨n1, rfl⟩ : ∃ n1, n = n1 + 1 := ⟨n - 1, by omega⟩
            have hnl : n1 < ss.length := by rw [HL.out]; omega
            have hl1 : ss.length - 1 = n1 := by rw [HL.out, Nat.add_sub_cancel]
            obtain ⟨vv, tt, hvv, hpos, htt, hlen, htok⟩ := stop_at HS.out (fun j => C j || (b1 && j == 0)) hrow hg n1 (by omega)
            have f00 := hrow.frozenAt (n1 * 15)
            have HKF : Hid (∀ wy, Below wx.heap.size wx wy → wy.ownsRow base 39 15 (.slice (some ⟨B, 0, none⟩) (n1 + 1) c) (n1 + 1) (stCells (clr (fun j => (C j || (b1 && j == 0)) || (false && j == ss.length - 1)) ss)) ∧ w.grownBy wy (some B)) := fun wy hb =>
              ⟨by simpa using own_below' HC1.out.2.1 hb, ⟨hb.os.trans HC1.out.2.2.os, hb.tape.trans HC1.out.2.2.tape, hb.output.trans HC1.out.2.2.output, Nat.le_trans HC1.out.2.2.size hb.size, fun k hk hne => (hb.block k (Nat.lt_of_lt_of_le hk HC1.out.2.2.size)).trans (HC1.out.2.2.block k hk hne)⟩⟩
            have HKT : Hid (∀ wy, Below wx.heap.size wx wy → (wy.setCell ⟨B, n1 * 15, none⟩ (.slice none 0 0)).ownsRow base 39 15 (.slice (some ⟨B, 0, none⟩) (n1 + 1) c) (n1 + 1) (stCells (clr (fun j => (C j || (b1 && j == 0)) || (true && j == ss.length - 1)) ss)) ∧ w.grownBy (wy.setCell ⟨B, n1 * 15, none⟩ (.slice none 0 0)) (some B)) := fun wy hb => by
              have hsto := (own_below' HC1.out.2.1 hb).stored (n1 * 15) (.slice none 0 0)
              rw [clr_set _ ss n1 hnl] at hsto
              rw [hl1]
              exact ⟨by simpa using hsto.1, (HKF.out wy hb).2.trans hsto.2⟩
            have HPE : Hid (∀ b2, b2 = lastC tt → Pass kind ss (fun j => (C j || (b1 && j == 0)) || (b2 && j == ss.length - 1))) := fun b2 h2 =>
              pass_end (by rw [HL.out]; exact HI.out) (by omega) HC1.out.1 (by rw [hl1, h2, ← htt])
            have HRX := Lib.hid hrow
            clear htt hb1 hrow hg hl1
            match tt, hpos, hlen, htok, HPE with
            | [], hpos, _, _, HPE =>
              rcases hpos with ⟨_, rfl⟩ | ⟨_, _, _, hnil, _⟩
              · go_wp2_with fail
                go_ret
                first | exact ⟨rfl, _, HPE.out false rfl, (HKF.out _ (Below.refl _ _)).1, (HKF.out _ (Below.refl _ _)).2⟩ | exact ⟨_, rfl, HPE.out false rfl, (HKF.out _ (Below.refl _ _)).1, (HKF.out _ (Below.refl _ _)).2⟩
              · exact absurd rfl hnil
            | [t1, t2], hpos, _, _, HPE =>
              rcases hpos with ⟨hnil, _⟩ | ⟨b, cc, rfl, _⟩
              · cases hnil
              · have hl2 : (([t1, t2] : List TD).length : Int) = 2 := rfl
                go_wp2_with fail
                go_ret
                first | exact ⟨rfl, _, HPE.out false rfl, (HKF.out _ (Below.refl _ _)).1, (HKF.out _ (Below.refl _ _)).2⟩ | exact ⟨_, rfl, HPE.out false rfl, (HKF.out _ (Below.refl _ _)).1, (HKF.out _ (Below.refl _ _)).2⟩
            | [t], hpos, _, htok, HPE =>
              rcases hpos with ⟨hnil, _⟩ | ⟨b, cc, rfl, _, _, _, _, hcell⟩
              · cases hnil
              · have hl1 : (([t] : List TD).length : Int) = 1 := rfl
                obtain ⟨c0, c1, c2, c3, c4, c5, c6⟩ := tok_cells hcell
                obtain ⟨q1, q2, q3⟩ := htok t (List.mem_singleton.2 rfl)
                obtain ⟨tp, tx, tof, tk⟩ := t
                dsimp only at c0 c1 c2 c3 c4 c5 c6 q1 q2 q3
                clear htok hcell
                by_cases k34 : tk = 34
                · subst k34
                  go_wp2_with fail
                  refine (pctv_any tp tx tof 34 _ (by simpa using q1) q3).mono ?_
                  rintro e w6 ⟨rfl, hb6⟩
                  dsimp only
                  have z6 := (hb6.cell (block_lt_of_cell hvv)).trans hvv
                  have f6 := (own_below' HRX.out hb6).frozenAt (n1 * 15)
                  have HF6 := Lib.hid (HKF.out w6 hb6)
                  have HT6 := Lib.hid (HKT.out w6 hb6)
                  clear hb6
                  generalize hxs : tx.extract 0 (tx.size - 1) = xs0 at *
                  cases hq : (xs0.toList == [49, 48, 48]) with
                  | true =>
                    go_wp2_with fail
                    go_ret
                    first | exact ⟨rfl, _, HPE.out true (by simp [lastC, hxs, hq]), HT6.out.1, HT6.out.2⟩ | exact ⟨_, rfl, HPE.out true (by simp [lastC, hxs, hq]), HT6.out.1, HT6.out.2⟩
                  | false =>
                    go_wp2_with fail
                    go_ret
                    first | exact ⟨rfl, _, HPE.out false (by simp [lastC, hxs, hq]), HF6.out.1, HF6.out.2⟩ | exact ⟨_, rfl, HPE.out false (by simp [lastC, hxs, hq]), HF6.out.1, HF6.out.2⟩
                · have k34' : ((tk : Int) == 34) = false := by simp; omega
                  go_wp2_with fail
                  go_ret
                  first | exact ⟨rfl, _, HPE.out false (by simp [lastC, k34]), (HKF.out _ (Below.refl _ _)).1, (HKF.out _ (Below.refl _ _)).2⟩ | exact ⟨_, rfl, HPE.out false (by simp [lastC, k34]), (HKF.out _ (Below.refl _ _)).1, (HKF.out _ (Below.refl _ _)).2⟩
            | _ :: _ :: _ :: _, _, hlen, _, _ => simp at hlen
          clear a2
          have h0l : 0 < ss.length := by rw [HL.out]; exact h0
          obtain ⟨vv, tt, hvv, hpos, htt, hlen, htok⟩ := stop_at HS.out C HR.out HG.out 0 h0
          rw [Nat.zero_mul] at hvv
          have HKF : Hid (∀ wx, Below wr.heap.size wr wx → wx.ownsRow base 39 15 (.slice (some ⟨B, 0, none⟩) n c) n (stCells (clr (fun j => C j || (false && j == 0)) ss)) ∧ w.grownBy wx (some B)) := fun wx hb =>
            ⟨by simpa using own_below' HR.out hb, ⟨hb.os.trans HG.out.os, hb.tape.trans HG.out.tape, hb.output.trans HG.out.output, Nat.le_trans HG.out.size hb.size, fun k hk hne => (hb.block k (Nat.lt_of_lt_of_le hk HG.out.size)).trans (HG.out.block k hk hne)⟩⟩
          have HKT : Hid (∀ wx, Below wr.heap.size wr wx → (wx.setCell ⟨B, 0, none⟩ (.slice none 0 0)).ownsRow base 39 15 (.slice (some ⟨B, 0, none⟩) n c) n (stCells (clr (fun j => C j || (true && j == 0)) ss)) ∧ w.grownBy (wx.setCell ⟨B, 0, none⟩ (.slice none 0 0)) (some B)) := fun wx hb => by
            have hsto := (own_below' HR.out hb).stored (0 * 15) (.slice none 0 0)
            rw [clr_set C ss 0 h0l, Nat.zero_mul] at hsto
            exact ⟨by simpa using hsto.1, (HKF.out wx hb).2.trans hsto.2⟩
          match tt, hpos, htt, hlen, htok with
          | [], hpos, htt, _, _ =>
            rcases hpos with ⟨_, rfl⟩ | ⟨_, _, _, hnil, _⟩
            · go_wp2_with fail
              exact key _ false (by rw [htt]; rfl) (HKF.out _ (Below.refl _ _)).1 (HKF.out _ (Below.refl _ _)).2
            · exact absurd rfl hnil
          | [t1, t2], hpos, htt, _, _ =>
            rcases hpos with ⟨hnil, _⟩ | ⟨b, cc, rfl, _⟩
            · cases hnil
            · have hl2 : (([t1, t2] : List TD).length : Int) = 2 := rfl
              go_wp2_with fail
              exact key _ false (by rw [htt]; rfl) (HKF.out _ (Below.refl _ _)).1 (HKF.out _ (Below.refl _ _)).2
          | [t], hpos, htt, _, htok =>
            rcases hpos with ⟨hnil, _⟩ | ⟨b, cc, rfl, _, _, _, _, hcell⟩
            · cases hnil
            · have hl1 : (([t] : List TD).length : Int) = 1 := rfl
              obtain ⟨c0, c1, c2, c3, c4, c5, c6⟩ := tok_cells hcell
              obtain ⟨q1, q2, q3⟩ := htok t (List.mem_singleton.2 rfl)
              obtain ⟨tp, tx, tof, tk⟩ := t
              dsimp only at c0 c1 c2 c3 c4 c5 c6 q1 q2 q3
              clear htok hcell
              by_cases k34 : tk = 34
              · subst k34
                go_wp2_with fail
                refine (pctv_any tp tx tof 34 _ (q1 rfl) q3).mono ?_
                rintro e w6 ⟨rfl, hb6⟩
                dsimp only
                have z6 := (hb6.cell (block_lt_of_cell hvv)).trans hvv
                have f6 := (own_below' HR.out hb6).frozenAt 0
                have c56 := (hb6.cell (block_lt_of_cell c5)).trans c5
                have HF6 := Lib.hid (HKF.out w6 hb6)
                have HT6 := Lib.hid (HKT.out w6 hb6)
                clear hb6
                generalize hxs : tx.extract 0 (tx.size - 1) = xs0 at *
                cases hq : (xs0.toList == [48]) with
                | true =>
                  go_wp2_with fail
                  exact key _ true (by rw [htt]; simp [firstC, hxs, hq]) HT6.out.1 HT6.out.2
                | false =>
                  go_wp2_with fail
                  exact key _ false (by rw [htt]; simp [firstC, hxs, hq]) HF6.out.1 HF6.out.2
              · have k34' : ((tk : Int) == 34) = false := by simp; omega
                by_cases k26 : tk = 26
                · subst k26
                  go_wp2_with fail
                  refine (dimv_any tp tx tof 26 _ (q2 rfl) q3).mono ?_
                  rintro e w6 ⟨rfl, hb6⟩
                  dsimp only
                  have z6 := (hb6.cell (block_lt_of_cell hvv)).trans hvv
                  have f6 := (own_below' HR.out hb6).frozenAt 0
                  have c56 := (hb6.cell (block_lt_of_cell c5)).trans c5
                  have HF6 := Lib.hid (HKF.out w6 hb6)
                  have HT6 := Lib.hid (HKT.out w6 hb6)
                  clear hb6
                  generalize hxs : tx.extract 0 tof = xs0 at *
                  cases hq : (xs0.toList == [48]) with
                  | true =>
                    go_wp2_with fail
                    exact key _ true (by rw [htt]; simp [firstC, hxs, hq]) HT6.out.1 HT6.out.2
                  | false =>
                    go_wp2_with fail
                    exact key _ false (by rw [htt]; simp [firstC, hxs, hq]) HF6.out.1 HF6.out.2
                · have k26' : ((tk : Int) == 26) = false := by simp; omega
                  go_wp2_with fail
                  exact key _ false (by rw [htt]; simp [firstC, k34, k26]) (HKF.out _ (Below.refl _ _)).1 (HKF.out _ (Below.refl _ _)).2
          | _ :: _ :: _ :: _, _, _, hlen, _ => simp at hlen
end Go.Proofs.YtnmjfjfpedbalaaGreatDoor
