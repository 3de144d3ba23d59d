/- Rows of structs: stored, loaded, copied; zzClone. -/
import Derived.Test.YtnmjfjfpedbalaaGreatDoorR4
import Derived.Lib.LazyBuf
namespace Go.Proofs.YtnmjfjfpedbalaaGreatDoor
open Go.RowKit
set_option linter.unusedVariables false
def splice : List Value → Nat → List Value → List Value
  | xs, _, [] => xs
  | xs, o, v :: r => splice (xs.set o v) (o + 1) r
theorem splice_len : ∀ (vs xs : List Value) (o : Nat), (splice xs o vs).length = xs.length
  | [], xs, o => rfl
  | v :: r, xs, o => by
    show (splice (xs.set o v) (o + 1) r).length = _
    rw [splice_len r, List.length_set]
theorem splice_out : ∀ (vs xs : List Value) (o j : Nat), (j < o ∨ o + vs.length ≤ j) → (splice xs o vs)[j]? = xs[j]?
  | [], xs, o, j, h => rfl
  | v :: r, xs, o, j, h => by
    show (splice (xs.set o v) (o + 1) r)[j]? = _
    have hl : (v :: r).length = r.length + 1 := rfl
    rw [splice_out r _ _ _ (by omega), List.getElem?_set_ne (by omega)]
theorem splice_in : ∀ (vs xs : List Value) (o j : Nat), o + vs.length ≤ xs.length → j < vs.length → (splice xs o vs)[o + j]? = vs[j]?
  | [], xs, o, j, h, hj => absurd hj (Nat.not_lt_zero _)
  | v :: r, xs, o, j, h, hj => by
    have hl : (v :: r).length = r.length + 1 := rfl
    show (splice (xs.set o v) (o + 1) r)[o + j]? = _
    cases j with
    | zero =>
      rw [splice_out r _ _ _ (by omega), Nat.add_zero, List.getElem?_set_self (by omega)]
      rfl
    | succ j =>
      rw [show o + (j + 1) = o + 1 + j by omega, splice_in r _ _ _ (by rw [List.length_set]; omega) (by omega)]
      rfl
section
variable {base size g n cap : Nat} {e : TypeId}
theorem owns_setCells : ∀ (vs : List Value) (o : Nat) (w : World) (xs : List Value), w.ownsRow base e size (.slice (some ⟨g, 0, none⟩) n cap) n xs →
    (w.setCells g o vs).ownsRow base e size (.slice (some ⟨g, 0, none⟩) n cap) n (splice xs o vs) ∧ w.grownBy (w.setCells g o vs) (some g)
  | [], o, w, xs, h => ⟨h, ⟨rfl, rfl, rfl, Nat.le_refl _, fun _ _ _ => rfl⟩⟩
  | v :: r, o, w, xs, h => by
    obtain ⟨h1, g1⟩ := h.stored o v
    obtain ⟨h2, g2⟩ := owns_setCells r (o + 1) (w.setCell ⟨g, o, none⟩ v) (xs.set o v) h1
    refine ⟨h2, ⟨g2.os.trans g1.os, g2.tape.trans g1.tape, g2.output.trans g1.output, Nat.le_trans g1.size g2.size, fun k hk hne => ?_⟩⟩
    have hk' : k < (w.setCell ⟨g, o, none⟩ v).heap.size := Nat.lt_of_lt_of_le hk g1.size
    exact (g2.block k hk' hne).trans (g1.block k hk hne)
theorem owns_there {w : World} {xs : List Value} (h : w.ownsRow base e size (.slice (some ⟨g, 0, none⟩) n cap) n xs) (o m : Nat) (hm : o + m ≤ n * size) : w.there g o m := fun j hj => by
  refine ⟨?_, h.frozenAt _⟩
  rw [h.cellAt _ (by omega), List.getElem?_eq_getElem (by rw [h.1]; omega)]
  rfl
theorem owns_range {w : World} {xs : List Value} (h : w.ownsRow base e size (.slice (some ⟨g, 0, none⟩) n cap) n xs) (o : Nat) (vs : List Value) (hm : o + vs.length ≤ n * size) (hv : ∀ j, j < vs.length → xs[o + j]? = vs[j]?) : w.rangeAt g o vs := fun j v hj => by
  have hl : j < vs.length := (List.getElem?_eq_some_iff.1 hj).1
  rw [h.cellAt _ (by omega), hv j hl, hj]
end
theorem toks_at (ts : List TD) (k r : Nat) (h : k < ts.length) (hr : r < 7) : (toksCells ts)[k * 7 + r]? = ts[k].cs.toList[r]? := by
  induction ts generalizing k with
  | nil => exact absurd h (Nat.not_lt_zero _)
  | cons t l ih =>
    have h7 : t.cs.toList.length = 7 := rfl
    show (t.cs.toList ++ toksCells l)[k * 7 + r]? = _
    cases k with
    | zero =>
      rw [List.getElem?_append_left (by omega)]
      simp
    | succ k =>
      rw [List.getElem?_append_right (by omega), h7, show (k + 1) * 7 + r - 7 = k * 7 + r by omega, ih k (by simpa using h)]
      rfl
theorem tok_size : (Tryz.prog.info? 37).map (·.size) = some 7 := by kernel_rfl
theorem tok_all (t : TD) : t.cs.all (·.oneCell') = true := by kernel_rfl
theorem posAt_own {w : World} {base g n cap : Nat} {ts : List TD} {xs : List Value} (h : w.ownsRow base 37 7 (.slice (some ⟨g, 0, none⟩) n cap) n xs) (hl : ts.length = n) (h0 : ts ≠ []) (hx : ∀ j, j < n * 7 → xs[j]? = (toksCells ts)[j]?) : PosAt w (.slice (some ⟨g, 0, none⟩) n cap) ts := by
  have hlen : (toksCells ts).length = xs.length := by rw [toksCells_len, h.1, hl]
  have e : xs = toksCells ts := List.ext_getElem? fun j => by
    by_cases hj : j < n * 7
    · exact hx j hj
    · rw [List.getElem?_eq_none (by rw [h.1]; omega), List.getElem?_eq_none (by rw [hlen, h.1]; omega)]
  subst e
  exact posAt_owns h hl (by cases ts with | nil => exact absurd rfl h0 | cons t r => rw [← hl]; exact Nat.succ_pos _)
theorem clone_step {ts : List TD} {xs : List Value} {n k : Nat} (hl : ts.length = n) (hx : xs.length = n * 7) (hk : k < n) (h : ∀ j, j < k * 7 → xs[j]? = (toksCells ts)[j]?) :
    ∀ j, j < (k + 1) * 7 → (splice xs (k * 7) (ts[k]'(by omega)).cs.toList)[j]? = (toksCells ts)[j]? := by
  intro j hj
  have h7 : (ts[k]'(by omega)).cs.toList.length = 7 := rfl
  by_cases hlt : j < k * 7
  · rw [splice_out _ _ _ _ (Or.inl hlt), h j hlt]
  · obtain ⟨r, rfl⟩ : ∃ r, j = k * 7 + r := ⟨j - k * 7, by omega⟩
    rw [splice_in _ _ _ _ (by rw [h7]; omega) (by rw [h7]; omega), toks_at ts k r (by omega) (by omega)]
set_option maxRecDepth 100000 in
set_option maxHeartbeats 1000000 in
theorem clone_any (v : Value) (ts : List TD) (w : World) (hp : PosAt w v ts) (hn : ts.length ≤ 2) :
    Calls Tryz.prog 9 #[v] w (fun e w' => ∃ v', e = .returned v' ∧ PosAt w' v' ts ∧ Below w.heap.size w w' ∧ ∀ b o l c, v' = .slice (some ⟨b, o, none⟩) l c → w.heap.size ≤ b) := by
  obtain ⟨i0, hi, hz0, hz1, hz2⟩ := info_parts tok_info
  rcases hp with ⟨rfl, rfl⟩ | ⟨b, c, rfl, hne, hlc, hc, hb, hcell⟩
  · have hq := fun (wx : World) => Lib.run_eql_slice_nil (P := Tryz.prog) wx 28 37 none 0 0 0 0 Tryz.underlying28
    go_enter Tryz.func9, Tryz.ntmps9
    go_wp2_with fail
    go_ret
    exact ⟨_, rfl, Or.inl ⟨rfl, rfl⟩, Below.refl _ _, fun b o l c hv => by cases hv⟩
  · obtain ⟨n, hl⟩ : ∃ n, ts.length = n := ⟨_, rfl⟩
    rw [hl] at hlc hn ⊢
    have hq := fun (wx : World) => Lib.run_eql_slice_nil (P := Tryz.prog) wx 28 37 (some ⟨b, 0, none⟩) n c 0 0 Tryz.underlying28
    have HC := Lib.hid hcell
    have HL := Lib.hid (And.intro hl hne)
    clear hcell hne hl
    go_enter Tryz.func9, Tryz.ntmps9
    go_wp2_with (at_make; refine wpList_make_full _ rfl _ _ 28 rfl w.heap.size 37 i0 _ 7 Tryz.underlying28 hi hz0 hz1 .i64 .i64 _ _ n rfl rfl rfl rfl (by rw [hz2]; omega) (by unfold maxLen; omega) (Nat.le_refl _) ?_; intro w1 hown1 hg1)
    have hb1 : Below w.heap.size w w1 := (Below.refl _ _).grown hg1 (Nat.le_refl _) (fun k h => by cases h)
    have HO := Lib.hid (And.intro hown1 hb1)
    clear hown1 hg1 hb1
    go_wp2_with fail
    go_loopw [4] (fun i wr => ∃ (k : Nat) (xs : List Value), k ≤ n ∧ i = .int .i64 k ∧ wr.ownsRow w.heap.size 37 7 (.slice (some ⟨w.heap.size, 0, none⟩) n n) n xs ∧ (∀ j, j < k * 7 → xs[j]? = (toksCells ts)[j]?) ∧ Below w.heap.size w wr) (fun i _ => n - (intOf i).toNat)
    case atStart => exact ⟨0, _, Nat.zero_le _, rfl, HO.out.1, fun j hj => by omega, HO.out.2⟩
    case round =>
      obtain ⟨k, xs, hk, rfl, hown, hx, hb1⟩ := hrel
      by_cases hlt : k < n
      · have hkt : k < ts.length := by rw [HL.out.1]; exact hlt
        have hrg : wr.rangeAt b (k * 7) ts[k].cs.toList := fun j u hu => by
          have hj : j < 7 := (List.getElem?_eq_some_iff.1 hu).1
          rw [hb1.cell (p := ⟨b, k * 7 + j, none⟩) hb]
          exact HC.out _ u (by rw [toks_at ts k j hkt hj]; exact hu)
        have hth := owns_there hown (k * 7) 7 (by omega)
        have hst := owns_setCells ts[k].cs.toList (k * 7) wr xs hown
        have hcs := clone_step HL.out.1 hown.1 hlt hx
        have HS := Lib.hid (And.intro hst.1 (And.intro hcs (below_setCells (Nat.le_refl w.heap.size) ts[k].cs.toList (k * 7) wr hb1)))
        have HRG := Lib.hid hrg
        have HTH := Lib.hid hth
        clear hrg hth hst hcs hx hown hb1
        generalize ts[k] = t at *
        clear hkt
        go_wp2_with (first | (refine wpList_load_mid rfl 37 (.tmp 20) rfl b _ rfl t.cs.toList _ ?c1 Tryz.underlying37 rfl tok_size ?c2) | (refine wpList_store_mid rfl 37 (.tmp 22) (.tmp 21) rfl w.heap.size _ t.cs rfl rfl ?d1 tok_size (tok_all t) ?d2))
        · exact HRG.out
        · exact HTH.out
        · exact ⟨⟨k + 1, _, by omega, by go_num, HS.out.1, HS.out.2.1, HS.out.2.2⟩, by simp [intOf]; omega⟩
      · obtain rfl : k = n := by omega
        go_wp2_with fail
        go_ret
        exact ⟨_, rfl, posAt_own hown HL.out.1 HL.out.2 hx, hb1, owns_fresh hown⟩
end Go.Proofs.YtnmjfjfpedbalaaGreatDoor
