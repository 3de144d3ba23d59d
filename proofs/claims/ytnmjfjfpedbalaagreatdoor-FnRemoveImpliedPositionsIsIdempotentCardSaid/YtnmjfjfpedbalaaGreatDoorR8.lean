/- Stops as a list: their cells, their values, what a pass may clear; a second pass clears nothing. -/
import Derived.Test.YtnmjfjfpedbalaaGreatDoorR7
namespace Go.Proofs.YtnmjfjfpedbalaaGreatDoor
open Go.RowKit
set_option linter.unusedVariables false
abbrev redT : TD := ⟨none, { data := #[114, 101, 100] }, 0, 29⟩
def midT (b : Bool) : TD := if b then ⟨none, { data := #[53, 48, 37] }, 0, 34⟩ else zTD
/-- A stop: its positions' slice, the tokens there, whether a midpoint follows. -/
structure SD where
  v : Value
  ts : List TD
  m : Bool
instance : Inhabited SD := ⟨⟨.slice none 0 0, [], false⟩⟩
def SD.cs (s : SD) : Array Value := stA s.v redT (midT s.m)
theorem SD.len (s : SD) : s.cs.toList.length = 15 := rfl
def stCells (ss : List SD) : List Value := ss.flatMap fun s => s.cs.toList
theorem stCells_len (ss : List SD) : (stCells ss).length = ss.length * 15 := by
  induction ss with
  | nil => rfl
  | cons t r ih =>
    have h7 := t.len
    have h8 : (t :: r).length = r.length + 1 := rfl
    show (t.cs.toList ++ stCells r).length = _
    rw [List.length_append, ih, h7, h8]
    omega
theorem stCells_snoc (ss : List SD) (t : SD) : stCells (ss ++ [t]) = stCells ss ++ t.cs.toList := by simp [stCells]
theorem st_at (ss : List SD) (k r : Nat) (h : k < ss.length) (hr : r < 15) : (stCells ss)[k * 15 + r]? = ss[k].cs.toList[r]? := by
  induction ss generalizing k with
  | nil => exact absurd h (Nat.not_lt_zero _)
  | cons t l ih =>
    have h7 := t.len
    show (t.cs.toList ++ stCells l)[k * 15 + r]? = _
    cases k with
    | zero =>
      rw [List.getElem?_append_left (by omega)]
      simp
    | succ k =>
      rw [List.getElem?_append_right (by omega), h7, show (k + 1) * 15 + r - 15 = k * 15 + r by omega, ih k (by simpa using h)]
      rfl
theorem stCells_ext {xs : List Value} {ss : List SD} (hl : xs.length = ss.length * 15) (h : ∀ k r (hk : k < ss.length), r < 15 → xs[k * 15 + r]? = ss[k].cs.toList[r]?) : xs = stCells ss := List.ext_getElem? fun j => by
  by_cases hj : j < ss.length * 15
  · have e : j = j / 15 * 15 + j % 15 := by omega
    rw [e, h (j / 15) (j % 15) (by omega) (by omega), st_at ss (j / 15) (j % 15) (by omega) (by omega)]
  · rw [List.getElem?_eq_none (by omega), List.getElem?_eq_none (by rw [stCells_len]; omega)]
def SD.nil (s : SD) : SD := ⟨.slice none 0 0, [], s.m⟩
/-- The stops with some positions cleared. -/
def clr (C : Nat → Bool) (ss : List SD) : List SD := ss.mapIdx fun i s => if C i then s.nil else s
theorem clr_len (C : Nat → Bool) (ss : List SD) : (clr C ss).length = ss.length := by simp [clr]
theorem clr_get (C : Nat → Bool) (ss : List SD) (k : Nat) (h : k < ss.length) : (clr C ss)[k]'(by rw [clr_len]; exact h) = if C k then ss[k].nil else ss[k] := by simp [clr]
theorem clr_none (ss : List SD) : clr (fun _ => false) ss = ss := by
  apply List.ext_getElem
  · exact clr_len _ _
  · intro i h1 h2
    rw [clr_get _ _ _ h2]
    rfl
theorem clr_set (C : Nat → Bool) (ss : List SD) (k : Nat) (h : k < ss.length) : (stCells (clr C ss)).set (k * 15) (.slice none 0 0) = stCells (clr (fun i => C i || i == k) ss) := by
  refine stCells_ext (by rw [List.length_set, stCells_len, clr_len, clr_len]) fun i r hi hr => ?_
  have hi' : i < ss.length := by rw [clr_len] at hi; exact hi
  rw [clr_get _ _ _ hi', List.getElem?_set]
  by_cases hk : i = k
  · subst hk
    by_cases h0 : r = 0
    · subst h0
      rw [if_pos (by omega), if_pos (by rw [stCells_len, clr_len]; omega)]
      simp only [beq_self_eq_true, Bool.or_true, if_true]
      rfl
    · rw [if_neg (by omega), st_at _ i r (by rw [clr_len]; exact hi') hr, clr_get _ _ _ hi']
      simp only [beq_self_eq_true, Bool.or_true, if_true]
      cases hC : C i
      · obtain ⟨r, rfl⟩ : ∃ r', r = r' + 1 := ⟨r - 1, by omega⟩
        rfl
      · rfl
  · rw [if_neg (by omega), st_at _ i r (by rw [clr_len]; exact hi') hr, clr_get _ _ _ hi']
    have e : (i == k) = false := by simp [hk]
    simp only [e, Bool.or_false]
/-- What a token's value is: told, and a whole number's word. -/
def TokFin (kind : Int) (t : TD) (p : Nat × ByteArray × Bool) : Prop := TokOk kind t p.1 p.2.1 p.2.2 ∧ ∃ neg m, m < 4503599627370496 ∧ p.1 = fint neg m
open Classical in
noncomputable def valOf (kind : Int) (t : TD) : Nat × ByteArray × Bool := if h : ∃ p, TokFin kind t p then Classical.choose h else (0, { data := #[] }, false)
theorem valOf_ok {kind : Int} {t : TD} (h : ∃ p, TokFin kind t p) : TokFin kind t (valOf kind t) := by
  unfold valOf
  rw [dif_pos h]
  exact Classical.choose_spec h
def nanW : Nat := 9221120237041090561
noncomputable def posVal (kind : Int) : List TD → ByteArray × Nat
  | [t] => if (valOf kind t).2.2 then ((valOf kind t).2.1, (valOf kind t).1) else ({ data := #[] }, nanW)
  | _ => ({ data := #[] }, nanW)
def nanB (x : Nat) : Bool := FloatKind.f64.format.order x x != some Ordering.eq
theorem nanB_nan : nanB nanW = true := by kernel_rfl
theorem nanB_fin {K : Int} {x : Nat} (h : FinLe K x) : nanB x = false := by
  obtain ⟨s, S, e, h1, _⟩ := h
  have : FloatKind.f64.format.order x x = some Ordering.eq := by
    show Ieee.double.order x x = _
    unfold Ieee.Format.order
    rw [h1]
    simp [Ieee.Datum.order, compare, compareOfLessAndEq]
  unfold nanB
  rw [this]
  rfl
/-- A stop whose tokens are told. -/
structure Good (kind : Int) (s : SD) : Prop where
  len : s.ts.length ≤ 2
  tok : ∀ t ∈ s.ts, (∃ p, TokFin kind t p) ∧ (t.k = 34 → 0 < t.s.size) ∧ (t.k = 26 → t.o ≤ t.s.size) ∧ t.o ≤ 65535 ∧ t.k ≤ 255 ∧ t.s.size ≤ 100
theorem posVal_fin {kind : Int} {s : SD} (h : Good kind s) (hn : nanB (posVal kind s.ts).2 = false) : FinLe 54 (posVal kind s.ts).2 := by
  obtain ⟨v, ts, m⟩ := s
  match ts, h, hn with
  | [], _, hn => exact absurd (nanB_nan.symm.trans hn) (by decide)
  | [t], h, hn =>
    have ht := valOf_ok (h.tok t (List.mem_singleton.2 rfl)).1
    obtain ⟨neg, k, hk, e⟩ := ht.2
    change nanB (if (valOf kind t).2.2 = true then ((valOf kind t).2.1, (valOf kind t).1) else (({ data := #[] } : ByteArray), nanW)).2 = false at hn
    show FinLe 54 (if (valOf kind t).2.2 = true then ((valOf kind t).2.1, (valOf kind t).1) else (({ data := #[] } : ByteArray), nanW)).2
    by_cases hc : (valOf kind t).2.2 = true
    · rw [if_pos hc] at hn ⊢
      show FinLe 54 (valOf kind t).1
      rw [e]
      exact fin_int neg k (by omega)
    · rw [if_neg hc] at hn
      exact absurd (nanB_nan.symm.trans hn) (by decide)
  | _ :: _ :: _, _, hn => exact absurd (nanB_nan.symm.trans hn) (by decide)
/-- Is the value x not the one that lies between a and b? -/
def farB (a b x : Nat) (i n : Int) : Bool :=
  match floatBits .quo .f64 (floatOfInt .f64 i) (floatOfInt .f64 n), floatBits .sub .f64 b a with
  | some t, some d =>
    match floatBits .mul .f64 d t with
    | some m =>
      match floatBits .add .f64 m a with
      | some l =>
        match floatBits .sub .f64 x l with
        | some s => FloatKind.f64.format.order (bits BinOp.andNot IntKind.u64 (s : Int) 9223372036854775808).toNat 4576918229304087675 == some Ordering.gt
        | none => false
      | none => false
    | none => false
  | _, _ => false
theorem far_chain {a b x : Nat} (ha : FinLe 54 a) (hb : FinLe 54 b) (hx : FinLe 54 x) (i n : Nat) (hn : 0 < n) (hn2 : n < 4503599627370496) (hi : i < 4503599627370496) : ∃ t d m l s, floatBits .quo .f64 (floatOfInt .f64 i) (floatOfInt .f64 n) = some t ∧ floatBits .sub .f64 b a = some d ∧ floatBits .mul .f64 d t = some m ∧ floatBits .add .f64 m a = some l ∧ floatBits .sub .f64 x l = some s ∧
    farB a b x i n = (FloatKind.f64.format.order (bits BinOp.andNot IntKind.u64 (s : Int) 9223372036854775808).toNat 4576918229304087675 == some Ordering.gt) := by
  have e1 : floatOfInt .f64 (i : Int) = fint false i := by
    show Ieee.double.nearest (decide ((i : Int) < 0)) (i : Int).natAbs 0 = _
    rw [show decide ((i : Int) < 0) = false by simp, Int.natAbs_natCast]
  have e2 : floatOfInt .f64 (n : Int) = fint false n := by
    show Ieee.double.nearest (decide ((n : Int) < 0)) (n : Int).natAbs 0 = _
    rw [show decide ((n : Int) < 0) = false by simp, Int.natAbs_natCast]
  obtain ⟨t, h1, f1⟩ := fin_div (K := 54) false n hn (by omega) (fin_int false i (by omega)) (by omega) (by omega)
  obtain ⟨d, h2, f2⟩ := fin_sub (K := 54) hb ha (by omega) (by omega)
  obtain ⟨m, h3, f3⟩ := fin_mul f2 f1 (by omega) (by omega) (by omega)
  obtain ⟨l, h4, f4⟩ := fin_add f3 (ha.mono (by omega)) (by omega) (by omega)
  obtain ⟨s, h5, f5⟩ := fin_sub (hx.mono (by omega)) f4 (by omega) (by omega)
  rw [← e1, ← e2] at h1
  refine ⟨t, d, m, l, s, h1, h2, h3, h4, h5, ?_⟩
  unfold farB
  rw [h1, h2]
  dsimp only
  rw [h3]
  dsimp only
  rw [h4]
  dsimp only
  rw [h5]
noncomputable def pv (kind : Int) (ss : List SD) (i : Nat) : ByteArray × Nat := posVal kind (ss.getD i default).ts
def md (ss : List SD) (i : Nat) : Bool := (ss.getD i default).m
/-- A run from s goes on over e. -/
def Ext (kind : Int) (ss : List SD) (s e : Nat) : Prop := md ss (e - 1) = false ∧ e < ss.length ∧ nanB (pv kind ss e).2 = false ∧ (pv kind ss e).1 = (pv kind ss s).1 ∧ ∀ i, s < i → i < e → farB (pv kind ss s).2 (pv kind ss e).2 (pv kind ss i).2 ((i : Int) - s) ((e : Int) - s) = false
def firstC : List TD → Bool
  | [t] => (t.k == 34 && (t.s.extract 0 (t.s.size - 1)).toList == [48]) || (t.k == 26 && (t.s.extract 0 t.o).toList == [48])
  | _ => false
def lastC : List TD → Bool
  | [t] => t.k == 34 && (t.s.extract 0 (t.s.size - 1)).toList == [49, 48, 48]
  | _ => false
/-- What a pass clears. -/
structure Pass (kind : Int) (ss : List SD) (C : Nat → Bool) : Prop where
  short : ∀ s, s < ss.length → C s = false → nanB (pv kind ss s).2 = false → Ext kind ss s (s + 1) → Ext kind ss s (s + 2) → C (s + 1) = true
  why : ∀ i, C i = true → i < ss.length ∧ ((∃ s, s < ss.length ∧ nanB (pv kind ss s).2 = false ∧ Ext kind ss s (s + 1) ∧ Ext kind ss s (s + 2)) ∨ (i = 0 ∧ firstC (ss.getD 0 default).ts = true) ∨ (i + 1 = ss.length ∧ lastC (ss.getD i default).ts = true))
  first : firstC (ss.getD 0 default).ts = true → C 0 = true
  last : lastC (ss.getD (ss.length - 1) default).ts = true → C (ss.length - 1) = true
/-- What holds at the head of the pass's loop. -/
structure Inv (kind : Int) (ss : List SD) (C : Nat → Bool) (s : Nat) : Prop where
  lt : ∀ i, C i = true → i < s ∧ ∃ t, t < ss.length ∧ nanB (pv kind ss t).2 = false ∧ Ext kind ss t (t + 1) ∧ Ext kind ss t (t + 2)
  done : ∀ t, t < s → C t = false → nanB (pv kind ss t).2 = false → Ext kind ss t (t + 1) → Ext kind ss t (t + 2) → C (t + 1) = true
theorem Inv.zero (kind : Int) (ss : List SD) : Inv kind ss (fun _ => false) 0 := ⟨fun i h => Bool.noConfusion h, fun t h => absurd h (Nat.not_lt_zero t)⟩
theorem Inv.skip {kind : Int} {ss : List SD} {C : Nat → Bool} {s : Nat} (h : Inv kind ss C s) (h1 : nanB (pv kind ss s).2 = true ∨ ¬ Ext kind ss s (s + 1)) : Inv kind ss C (s + 1) := by
  refine ⟨fun i hi => ⟨by have := (h.lt i hi).1; omega, (h.lt i hi).2⟩, fun t ht hc hn e1 e2 => ?_⟩
  by_cases hts : t = s
  · subst hts
    rcases h1 with h1 | h1
    · exact absurd (h1.symm.trans hn) (by decide)
    · exact absurd e1 h1
  · exact h.done t (by omega) hc hn e1 e2
/-- The places between s and e's last but one are cleared besides. -/
def span (C : Nat → Bool) (s i : Nat) : Nat → Bool := fun j => C j || (decide (s < j) && decide (j < i))
theorem span_start (C : Nat → Bool) (s : Nat) : span C s (s + 1) = C := by
  funext j
  unfold span
  by_cases h : s < j
  · rw [show decide (j < s + 1) = false by simp; omega]; simp
  · rw [show decide (s < j) = false by simp; omega]; simp
theorem span_step (C : Nat → Bool) (s i : Nat) (h : s < i) : (fun j => span C s i j || j == i) = span C s (i + 1) := by
  funext j
  unfold span
  by_cases hj : j = i
  · subst hj
    rw [show decide (s < j) = true by simp [h], show decide (j < j + 1) = true by simp]
    simp
  · have e1 : (j == i) = false := by simp [hj]
    have e2 : decide (j < i + 1) = decide (j < i) := by
      by_cases h2 : j < i
      · rw [decide_eq_true h2, decide_eq_true (by omega)]
      · rw [decide_eq_false h2, decide_eq_false (by omega)]
    rw [e1, e2]
    simp
theorem Inv.run {kind : Int} {ss : List SD} {C : Nat → Bool} {s e : Nat} (h : Inv kind ss C s) (hs : s < ss.length) (hn : nanB (pv kind ss s).2 = false) (he : s + 1 < e) (hext : ∀ e', s < e' → e' < e → Ext kind ss s e') (hnot : ¬ Ext kind ss s e) : Inv kind ss (span C s (e - 1)) (e - 1) := by
  refine ⟨fun i hi => ?_, fun t ht hc htn e1 e2 => ?_⟩
  · unfold span at hi
    rw [Bool.or_eq_true, Bool.and_eq_true, decide_eq_true_eq, decide_eq_true_eq] at hi
    rcases hi with hi | ⟨h1, h2⟩
    · exact ⟨by have := (h.lt i hi).1; omega, (h.lt i hi).2⟩
    · exact ⟨by omega, s, hs, hn, hext _ (by omega) (by omega), hext _ (by omega) (by omega)⟩
  · unfold span at hc ⊢
    rw [Bool.or_eq_false_iff] at hc
    rw [Bool.or_eq_true, Bool.and_eq_true, decide_eq_true_eq, decide_eq_true_eq]
    by_cases hts : t < s
    · exact Or.inl (h.done t hts hc.1 htn e1 e2)
    · by_cases hse : t = s
      · subst hse
        refine Or.inr ⟨by omega, ?_⟩
        by_cases h3 : e = t + 2
        · subst h3; exact absurd e2 hnot
        · omega
      · have := hc.2
        rw [Bool.and_eq_false_iff, decide_eq_false_iff_not, decide_eq_false_iff_not] at this
        omega
/-- The pass's end: the first and the last stop besides. -/
theorem pass_end {kind : Int} {ss : List SD} {C : Nat → Bool} {b1 b2 : Bool} (h : Inv kind ss C ss.length) (h0 : 0 < ss.length) (hb1 : b1 = firstC (if C 0 then [] else (ss.getD 0 default).ts)) (hb2 : b2 = lastC (if (C (ss.length - 1) || (b1 && ss.length - 1 == 0)) then [] else (ss.getD (ss.length - 1) default).ts)) :
    Pass kind ss (fun j => (C j || (b1 && j == 0)) || (b2 && j == ss.length - 1)) := by
  refine ⟨fun s hs hc hn e1 e2 => ?_, fun i hi => ?_, fun hf => ?_, fun hf => ?_⟩
  · rw [Bool.or_eq_false_iff, Bool.or_eq_false_iff] at hc
    have := h.done s hs hc.1.1 hn e1 e2
    simp [this]
  · rw [Bool.or_eq_true, Bool.or_eq_true, Bool.and_eq_true, Bool.and_eq_true, beq_iff_eq, beq_iff_eq] at hi
    rcases hi with (hi | ⟨h1, rfl⟩) | ⟨h2, rfl⟩
    · exact ⟨(h.lt i hi).1, Or.inl (h.lt i hi).2⟩
    · refine ⟨h0, Or.inr (Or.inl ⟨rfl, ?_⟩)⟩
      rw [hb1] at h1
      cases hC : C 0 with
      | true => rw [hC] at h1; cases h1
      | false => rw [hC] at h1; exact h1
    · refine ⟨by omega, Or.inr (Or.inr ⟨by omega, ?_⟩)⟩
      rw [hb2] at h2
      cases hC : (C (ss.length - 1) || (b1 && ss.length - 1 == 0)) with
      | true => rw [hC] at h2; cases h2
      | false => rw [hC] at h2; exact h2
  · cases hC : C 0 with
    | true => simp
    | false =>
      have : b1 = true := by rw [hb1, hC]; exact hf
      simp [this]
  · cases hC : (C (ss.length - 1) || (b1 && ss.length - 1 == 0)) with
    | true => simp
    | false =>
      have : b2 = true := by rw [hb2, hC]; exact hf
      simp [this]
theorem second_pass {kind : Int} {ss ss' : List SD} {C C2 : Nat → Bool} (h : Pass kind ss C) (hl : ss'.length = ss.length) (hs : ∀ i, i < ss.length → (ss'.getD i default).ts = (if C i then [] else (ss.getD i default).ts) ∧ (ss'.getD i default).m = (ss.getD i default).m) (h2 : Pass kind ss' C2) : ∀ i, C2 i = false := by
  intro i
  cases hc : C2 i with
  | false => rfl
  | true =>
    exfalso
    obtain ⟨hi, hw⟩ := h2.why i hc
    rw [hl] at hi
    have kept : ∀ j, j < ss.length → nanB (pv kind ss' j).2 = false → C j = false ∧ pv kind ss' j = pv kind ss j := fun j hj hn => by
      unfold pv at hn ⊢
      rw [(hs j hj).1] at hn ⊢
      cases hC : C j with
      | true =>
        rw [hC] at hn
        exact absurd (nanB_nan.symm.trans hn) (by decide)
      | false => exact ⟨rfl, rfl⟩
    have mds : ∀ j, j < ss.length → md ss' j = md ss j := fun j hj => (hs j hj).2
    rcases hw with ⟨s, hs1, hn, ⟨a1, a2, a3, a4, _⟩, b1, b2, b3, b4, b5⟩ | ⟨rfl, hf⟩ | ⟨he, hf⟩
    · rw [hl] at hs1 a2 b2
      obtain ⟨k0, p0⟩ := kept s hs1 hn
      obtain ⟨k1, p1⟩ := kept (s + 1) a2 a3
      obtain ⟨k2, p2⟩ := kept (s + 2) b2 b3
      have b5' := b5 (s + 1) (by omega) (by omega)
      rw [mds _ (by omega)] at a1 b1
      rw [p0] at hn a4 b4 b5'
      rw [p1] at a3 a4 b5'
      rw [p2] at b3 b4 b5'
      have := h.short s hs1 k0 hn ⟨a1, a2, a3, a4, fun i h1 h2 => by omega⟩ ⟨b1, b2, b3, b4, fun i h1 h2 => by
        obtain rfl : i = s + 1 := by omega
        exact b5'⟩
      rw [k1] at this
      cases this
    · rw [(hs 0 hi).1] at hf
      cases hC : C 0 with
      | true => rw [hC] at hf; cases hf
      | false =>
        rw [hC] at hf
        have := h.first hf
        rw [hC] at this
        cases this
    · rw [(hs i hi).1] at hf
      have hi2 : i = ss.length - 1 := by omega
      cases hC : C i with
      | true => rw [hC] at hf; cases hf
      | false =>
        rw [hC] at hf
        have := h.last (by rw [← hi2]; exact hf)
        rw [← hi2, hC] at this
        cases this
end Go.Proofs.YtnmjfjfpedbalaaGreatDoor
