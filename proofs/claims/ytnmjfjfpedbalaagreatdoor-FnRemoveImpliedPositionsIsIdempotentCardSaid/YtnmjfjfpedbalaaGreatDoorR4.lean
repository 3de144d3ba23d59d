/- zzPosTokens: a stop's tokens. -/
import Derived.Test.YtnmjfjfpedbalaaGreatDoorR3
import Derived.Deep.MidRow
import Derived.Deep.AppendLies
namespace Go.Proofs.YtnmjfjfpedbalaaGreatDoor
open Go.RowKit
set_option linter.unusedVariables false
theorem tok_info : (Tryz.prog.info? 37).map (fun i => (i.zero, i.size, i.bytes)) = some (some (.agg #[.pointer none, .string { data := #[] }, .int .i32 0, .int .u32 0, .int .u16 0, .int .u8 0, .int .u8 0]), 7, 40) := by kernel_rfl
def toksCells (ts : List TD) : List Value := ts.flatMap fun t => t.cs.toList
theorem toksCells_len (ts : List TD) : (toksCells ts).length = ts.length * 7 := by
  induction ts with
  | nil => rfl
  | cons t r ih =>
    show (t.cs.toList ++ toksCells r).length = _
    have h7 : t.cs.toList.length = 7 := rfl
    have h8 : (t :: r).length = r.length + 1 := rfl
    rw [List.length_append, ih, h7, h8]
    omega
theorem toksCells_snoc (ts : List TD) (t : TD) : toksCells (ts ++ [t]) = toksCells ts ++ t.cs.toList := by simp [toksCells]
theorem tok_ones (t : TD) : ∀ u ∈ t.cs.toList, u.oneCell' = true := List.all_eq_true.1 (show t.cs.toList.all (fun u => u.oneCell') = true from rfl)
/-- A slice of tokens, nil where there are none. -/
def PosAt (w : World) (v : Value) (ts : List TD) : Prop := (ts = [] ∧ v = .slice none 0 0) ∨ ∃ b c, v = .slice (some ⟨b, 0, none⟩) ts.length c ∧ ts ≠ [] ∧ ts.length ≤ c ∧ c ≤ maxLen ∧ b < w.heap.size ∧ ∀ j u, (toksCells ts)[j]? = some u → w.cell? ⟨b, j, none⟩ = some u
theorem PosAt.below {w w' : World} {v : Value} {ts : List TD} (h : PosAt w v ts) (hb : Below w.heap.size w w') : PosAt w' v ts := by
  rcases h with h | ⟨b, c, h1, h2, h3, h4, h5, h6⟩
  · exact Or.inl h
  · exact Or.inr ⟨b, c, h1, h2, h3, h4, Nat.lt_of_lt_of_le h5 hb.size, fun j u hu => (hb.cell (p := ⟨b, j, none⟩) h5).trans (h6 j u hu)⟩
theorem new_row (w : World) (B : Nat) (hB : w.heap.size = B) (cs : Array Value) (T : TypeId) (fr : Nat × Nat) : ∀ j u, cs.toList[j]? = some u → (w.alloc (.cells cs T fr)).cell? ((⟨B, 0, none⟩ : Addr).add j) = some u := by
  intro j u h
  subst hB
  exact World.news_of_block (heap_alloc_new w (.cells cs T fr)) j u h
theorem isTok_snoc {q : Pos} {ts : List TD} {k : Nat} {t : TD} (hl : ts.length = k) (h : ∀ j (h : j < ts.length), IsTok q j ts[j]) (ht : IsTok q k t) : ∀ j (h : j < (ts ++ [t]).length), IsTok q j (ts ++ [t])[j] := by
  intro j hj
  by_cases hlt : j < ts.length
  · rw [List.getElem_append_left hlt]; exact h j hlt
  · have : j = k := by simp at hj; omega
    subst this
    rw [List.getElem_append_right (by omega)]
    simp only [hl, Nat.sub_self, List.getElem_cons_zero]
    exact ht
def PosOk (q : Pos) (w : World) (e : Ending) (w' : World) : Prop := ∃ v ts, e = .returned v ∧ PosAt w' v ts ∧ ts.length = q.n ∧ (∀ j (h : j < ts.length), IsTok q j ts[j]) ∧ Below w.heap.size w w' ∧ ∀ b o l c, v = .slice (some ⟨b, o, none⟩) l c → w.heap.size ≤ b
theorem own_below' {w w' : World} {base : Nat} {e : TypeId} {size n : Nat} {v : Value} {xs : List Value} (h : w.ownsRow base e size v n xs) (hb : Below w.heap.size w w') : w'.ownsRow base e size v n xs := by
  refine ⟨h.1, ?_⟩
  rcases h.2 with h | ⟨g, cap, cur, rfl, h0, hgg, hr⟩
  · exact .inl h
  · exact .inr ⟨g, cap, cur, rfl, h0, (hb.block _ (Array.getElem?_eq_some_iff.1 hgg).1).trans hgg, hr⟩
theorem owns_fresh {w : World} {base k size : Nat} {e : TypeId} {v : Value} {xs : List Value} (h : w.ownsRow base e size v k xs) : ∀ b o l c, v = .slice (some ⟨b, o, none⟩) l c → base ≤ b := by
  intro b o l c hv
  rcases h.2 with ⟨rfl, _⟩ | ⟨g, cap, cur, rfl, hbg, _⟩
  · cases hv
  · cases hv
    exact hbg
theorem posAt_owns {w : World} {base k : Nat} {v : Value} {ts : List TD} (h : w.ownsRow base 37 7 v k (toksCells ts)) (hk : ts.length = k) (h0 : 0 < k) : PosAt w v ts := by
  rcases h.2 with ⟨rfl, rfl⟩ | ⟨g, cap, cur, rfl, hbg, hg, hnc, hcm, hcs, htake⟩
  · omega
  · refine Or.inr ⟨g, cap, by rw [hk], fun e => by subst e; simp at hk; omega, by omega, hcm, (Array.getElem?_eq_some_iff.1 hg).1, fun j u hu => ?_⟩
    have := h.cells (g := g) rfl j u hu
    rwa [Addr.add_mid, Nat.zero_add] at this
set_option maxRecDepth 100000 in
set_option maxHeartbeats 1000000 in
theorem posToks_any (q : Pos) (w : World) (hq : q.n ≤ 2) (hv1 : -1000 ≤ q.v) (hv2 : q.v ≤ 1000) :
    Calls Tryz.prog 16 #[.agg q.cs] w (PosOk q w) := by
  obtain ⟨i0, hi, hz0, hz1, hz2⟩ := info_parts tok_info
  obtain ⟨n, px, mid, fn, v⟩ := q
  dsimp only [Pos.cs] at *
  by_cases hn0 : n = 0
  · subst hn0
    go_enter Tryz.func16, Tryz.ntmps16
    go_wp2_with fail
    go_ret
    exact ⟨_, [], rfl, Or.inl ⟨rfl, rfl⟩, rfl, fun j h => absurd h (Nat.not_lt_zero _), (Below.refl _ _).alloc (Nat.le_refl _) _, fun b o l c hv => by cases hv⟩
  have hne : ((n : Int) == 0) = false := by rw [beq_eq_false_iff_ne]; omega
  go_enter Tryz.func16, Tryz.ntmps16
  go_wp2_with (at_make; refine wpList_make_own _ rfl _ _ 28 rfl (w.heap.size + 1) 37 i0 _ 7 Tryz.underlying28 hi hz0 hz1 .i64 .i64 _ 2 rfl rfl (by rfl) (by rw [hz2]; omega) (by unfold maxLen; omega) (by simp) ?_; intro w1 hown1 hg1; have hsz : (w.alloc (.cells #[.int .i64 n, .bool px, .bool mid, .bool fn, .int .i64 v] 48)).heap.size = w.heap.size + 1 := (by simp); rw [hsz] at hown1; clear hsz)
  have hb1 : Below (w.heap.size + 1) (w.alloc (.cells #[.int .i64 n, .bool px, .bool mid, .bool fn, .int .i64 v] 48)) w1 := (Below.refl _ _).grown hg1 (by simp) (fun k h => by cases h)
  have HO := Lib.hid (And.intro hown1 hb1)
  clear hown1 hg1 hb1
  go_loopw [3, 4] (fun vo j wr => ∃ (k : Nat) (ts : List TD), k ≤ n ∧ j = .int .i64 k ∧ ts.length = k ∧ wr.ownsRow (w.heap.size + 1) 37 7 vo k (toksCells ts) ∧ (∀ j (h : j < ts.length), IsTok ⟨n, px, mid, fn, v⟩ j ts[j]) ∧ Below (w.heap.size + 1) (w.alloc (.cells #[.int .i64 n, .bool px, .bool mid, .bool fn, .int .i64 v] 48)) wr) (fun _ j _ => n - (intOf j).toNat)
  case atStart => exact ⟨0, [], Nat.zero_le _, rfl, rfl, HO.out.1, fun j h => absurd h (Nat.not_lt_zero _), HO.out.2⟩
  case round =>
    obtain ⟨k, ts, hk, rfl, hts, hown, hist, hb⟩ := hrel
    have r0 := (hb.block w.heap.size (Nat.lt_succ_self _)).trans (heap_alloc_new w (.cells #[.int .i64 n, .bool px, .bool mid, .bool fn, .int .i64 v] 48))
    have c0 := cell_of_row _ _ 0 _ _ _ r0
    have c1 := cell_of_row _ _ 1 _ _ _ r0
    have c3 := cell_of_row _ _ 3 _ _ _ r0
    have c4 := cell_of_row _ _ 4 _ _ _ r0
    simp only [List.getElem?_toArray, List.getElem?_cons_zero, List.getElem?_cons_succ] at c0 c1 c3 c4
    have HB := Lib.hid hb
    have HOW := Lib.hid hown
    have HT := Lib.hid (And.intro hts hist)
    have hsz := hb.size
    simp at hsz
    clear hb hown hts hist r0
    by_cases hlt : k < n
    · cases fn with
      | true =>
        go_wp2_with (first
          | (go_at_call 28; refine (func_any _ _).mono ?_; rintro e w2 ⟨p, rfl, hb2⟩; have hsz2 := hb2.size; have H2 := Lib.hid (And.intro (own_below' HOW.out hb2) (HB.out.trans (hb2.mono hsz))); clear hb2)
          | (at_builtin; refine wpList_append_own _ rfl (.tmp 19) (.tmp 21) 28 rfl (w.heap.size + 1) 37 i0 _ 7 40 Tryz.underlying28 hi hz0 hz1 hz2 rfl (by decide) _ k (toksCells ts) rfl (H2.out.1.alloc _) ⟨w2.heap.size, 0, none⟩ 1 1 (TD.cs ⟨some p, { data := #[99, 97, 108, 99] }, 0, 27⟩).toList rfl rfl (new_row _ _ rfl _ _ _) (tok_ones _) (by unfold maxLen; omega) (by omega) (by simp; omega) ?_; intro v3 w3 hown3 hg3 hn3; go_loud (have hb3 := (H2.out.2.alloc (show w.heap.size + 1 ≤ w2.heap.size by omega) (.cells (TD.cs ⟨some p, { data := #[99, 97, 108, 99] }, 0, 27⟩) 37))); go_loud (have hb4 := hb3.grown hg3 (by simp; omega) (fun k hk => (H2.out.1.lt k hk).1)); have H3 := Lib.hid (And.intro hown3 hb4); clear hown3 hg3 hn3 hb3 hb4))
        go_roundw
        case rel => exact ⟨k + 1, ts ++ [⟨some p, { data := #[99, 97, 108, 99] }, 0, 27⟩], by omega, by go_num, by rw [List.length_append, HT.out.1]; rfl, by rw [toksCells_snoc]; exact H3.out.1, isTok_snoc HT.out.1 HT.out.2 (Or.inl ⟨p, rfl⟩), H3.out.2⟩
        case measure => simp [intOf]; omega
      | false =>
        go_wp2_with fail
        refine (itoa_int (v + 5 * (k : Int)) _ (by omega) (by omega)).mono ?_
        rintro e w2 ⟨num, rfl, hnum, hb2⟩
        have hsz2 := hb2.size
        have hns := hnum.size
        have HN := Lib.hid hnum
        have d1 := (hb2.cell (block_lt_of_cell c1)).trans c1
        have H2 := Lib.hid (And.intro (own_below' HOW.out hb2) (HB.out.trans (hb2.mono hsz)))
        clear hb2 hnum
        cases px with
        | true =>
          have hw16 : IntKind.u16.wrap (num.size : Int) = num.size := by rw [IntKind.wrap_u16]; omega
          go_wp2_with fail
          refine (tok_any 26 _ _).mono ?_
          rintro e w4 ⟨rfl, hb5⟩
          have hsz4 := hb5.size
          have H4 := Lib.hid (And.intro (own_below' H2.out.1 hb5) (H2.out.2.trans (hb5.mono (show w.heap.size + 1 ≤ w2.heap.size by omega))))
          clear hb5
          dsimp only [TD.cs]
          go_wp2_with (first
            | (at_builtin; go_loud (refine wpList_append_own _ rfl (.tmp 38) (.tmp 40) 28 rfl (w.heap.size + 1) 37 i0 _ 7 40 Tryz.underlying28 hi hz0 hz1 hz2 rfl (by decide) _ k (toksCells ts) rfl ((H4.out.1.alloc _).alloc _) ⟨w4.heap.size + 1, 0, none⟩ 1 1 (TD.cs ⟨none, num ++ { data := #[112, 120] }, num.size, 26⟩).toList rfl rfl (new_row _ _ (by simp) _ _ _) (tok_ones _) (by unfold maxLen; omega) (by omega) (by simp; omega) ?_); intro v3 w3 hown3 hg3 hn3; go_loud (have hb3 := ((H4.out.2.alloc (show w.heap.size + 1 ≤ w4.heap.size by omega) (.cells (TD.cs ⟨none, num ++ { data := #[112, 120] }, num.size, 26⟩) 37)).alloc (by simp; omega) (.cells (TD.cs ⟨none, num ++ { data := #[112, 120] }, num.size, 26⟩) 37))); go_loud (have hb4 := hb3.grown hg3 (by simp; omega) (fun k hk => (H4.out.1.lt k hk).1)); have H3 := Lib.hid (And.intro hown3 hb4); clear hown3 hg3 hn3 hb3 hb4))
          go_roundw
          case rel => exact ⟨k + 1, ts ++ [⟨none, num ++ { data := #[112, 120] }, num.size, 26⟩], by omega, by go_num, by rw [List.length_append, HT.out.1]; rfl, by rw [toksCells_snoc]; exact H3.out.1, isTok_snoc HT.out.1 HT.out.2 (Or.inr ⟨num, HN.out, Or.inl rfl⟩), H3.out.2⟩
          case measure => simp [intOf]; omega
        | false =>
          go_wp2_with fail
          refine (tok_any 34 _ _).mono ?_
          rintro e w4 ⟨rfl, hb5⟩
          have hsz4 := hb5.size
          have H4 := Lib.hid (And.intro (own_below' H2.out.1 hb5) (H2.out.2.trans (hb5.mono (show w.heap.size + 1 ≤ w2.heap.size by omega))))
          clear hb5
          go_wp2_with (first
            | (at_builtin; refine wpList_append_own _ rfl (.tmp 42) (.tmp 46) 28 rfl (w.heap.size + 1) 37 i0 _ 7 40 Tryz.underlying28 hi hz0 hz1 hz2 rfl (by decide) _ k (toksCells ts) rfl (H4.out.1.alloc _) ⟨w4.heap.size, 0, none⟩ 1 1 (TD.cs ⟨none, num ++ { data := #[37] }, 0, 34⟩).toList rfl rfl (new_row _ _ rfl _ _ _) (tok_ones _) (by unfold maxLen; omega) (by omega) (by simp; omega) ?_; intro v3 w3 hown3 hg3 hn3; have hb3 := (H4.out.2.alloc (show w.heap.size + 1 ≤ w4.heap.size by omega) (.cells (TD.cs ⟨none, num ++ { data := #[37] }, 0, 34⟩) 37)); have hb4 := hb3.grown hg3 (by simp; omega) (fun k hk => (H4.out.1.lt k hk).1); have H3 := Lib.hid (And.intro hown3 hb4); clear hown3 hg3 hn3 hb3 hb4))
          go_roundw
          case rel => exact ⟨k + 1, ts ++ [⟨none, num ++ { data := #[37] }, 0, 34⟩], by omega, by go_num, by rw [List.length_append, HT.out.1]; rfl, by rw [toksCells_snoc]; exact H3.out.1, isTok_snoc HT.out.1 HT.out.2 (Or.inr ⟨num, HN.out, Or.inr rfl⟩), H3.out.2⟩
          case measure => simp [intOf]; omega
    · obtain rfl : k = n := by omega
      go_wp2_with fail
      go_ret
      exact ⟨_, ts, rfl, posAt_owns HOW.out HT.out.1 (by omega), HT.out.1, HT.out.2, ((Below.refl _ _).alloc (Nat.le_refl _) _).trans (HB.out.mono (Nat.le_succ _)), fun b o l c hv => Nat.le_trans (Nat.le_succ _) (owns_fresh HOW.out b o l c hv)⟩
end Go.Proofs.YtnmjfjfpedbalaaGreatDoor
