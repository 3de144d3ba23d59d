/- Rows of elements of k cells each: sort.Sort's contract over them. -/
import Derived.Test.YtokehapgddicjaaGreatFmtSortF
import Derived.Test.YtokehapgddicjaaGreatFmtBase
import Derived.Lib.LazyBuf
namespace Go.Proofs.YtokehapgddicjaaGreatFmt
open Go.Shelf Go.RowKit Go.Lib
set_option linter.unusedVariables false
def splice : List Value → Nat → List Value → List Value
  | xs, _, [] => xs
  | xs, o, v :: r => splice (xs.set o v) (o + 1) r
theorem splice_len : ∀ (vs xs : List Value) (o : Nat), (splice xs o vs).length = xs.length
  | [], xs, o => rfl
  | v :: r, xs, o => by
    show (splice (xs.set o v) (o + 1) r).length = _
    rw [splice_len r, List.length_set]
theorem splice_out : ∀ (vs xs : List Value) (o j : Nat), (j < o ∨ o + vs.length ≤ j) → (splice xs o vs)[j]? = xs[j]?
  | [], xs, o, j, h => rfl
  | v :: r, xs, o, j, h => by
    show (splice (xs.set o v) (o + 1) r)[j]? = _
    have hl : (v :: r).length = r.length + 1 := rfl
    rw [splice_out r _ _ _ (by omega), List.getElem?_set_ne (by omega)]
theorem splice_in : ∀ (vs xs : List Value) (o j : Nat), o + vs.length ≤ xs.length → j < vs.length → (splice xs o vs)[o + j]? = vs[j]?
  | [], xs, o, j, h, hj => absurd hj (Nat.not_lt_zero _)
  | v :: r, xs, o, j, h, hj => by
    have hl : (v :: r).length = r.length + 1 := rfl
    show (splice (xs.set o v) (o + 1) r)[o + j]? = _
    cases j with
    | zero =>
      rw [splice_out r _ _ _ (by omega), Nat.add_zero, List.getElem?_set_self (by omega)]
      rfl
    | succ j =>
      rw [show o + (j + 1) = o + 1 + j by omega, splice_in r _ _ _ (by rw [List.length_set]; omega) (by omega)]
      rfl
section
variable {base size g n cap : Nat} {e : TypeId}
theorem owns_setCells : ∀ (vs : List Value) (o : Nat) (w : World) (xs : List Value), w.ownsRow base e size (.slice (some ⟨g, 0, none⟩) n cap) n xs →
    (w.setCells g o vs).ownsRow base e size (.slice (some ⟨g, 0, none⟩) n cap) n (splice xs o vs) ∧ w.grownBy (w.setCells g o vs) (some g)
  | [], o, w, xs, h => ⟨h, ⟨rfl, rfl, rfl, Nat.le_refl _, fun _ _ _ => rfl⟩⟩
  | v :: r, o, w, xs, h => by
    obtain ⟨h1, g1⟩ := h.stored o v
    obtain ⟨h2, g2⟩ := owns_setCells r (o + 1) (w.setCell ⟨g, o, none⟩ v) (xs.set o v) h1
    refine ⟨h2, ⟨g2.os.trans g1.os, g2.tape.trans g1.tape, g2.output.trans g1.output, Nat.le_trans g1.size g2.size, fun k hk hne => ?_⟩⟩
    have hk' : k < (w.setCell ⟨g, o, none⟩ v).heap.size := Nat.lt_of_lt_of_le hk g1.size
    exact (g2.block k hk' hne).trans (g1.block k hk hne)
theorem owns_there {w : World} {xs : List Value} (h : w.ownsRow base e size (.slice (some ⟨g, 0, none⟩) n cap) n xs) (o m : Nat) (hm : o + m ≤ n * size) : w.there g o m := fun j hj => by
  refine ⟨?_, h.frozenAt _⟩
  rw [h.cellAt _ (by omega), List.getElem?_eq_getElem (by rw [h.1]; omega)]
  rfl
theorem owns_range {w : World} {xs : List Value} (h : w.ownsRow base e size (.slice (some ⟨g, 0, none⟩) n cap) n xs) (o : Nat) (vs : List Value) (hm : o + vs.length ≤ n * size) (hv : ∀ j, j < vs.length → xs[o + j]? = vs[j]?) : w.rangeAt g o vs := fun j v hj => by
  have hl : j < vs.length := (List.getElem?_eq_some_iff.1 hj).1
  rw [h.cellAt _ (by omega), hv j hl, hj]
theorem owns_block {w w' : World} {v : Value} {xs : List Value} (h : w.ownsRow base e size v n xs) (hb : ∀ b, (∃ c, v = .slice (some ⟨b, 0, none⟩) n c) → w'.heap[b]? = w.heap[b]?) : w'.ownsRow base e size v n xs := by
  refine ⟨h.1, ?_⟩
  rcases h.2 with h2 | ⟨g, cap, cur, rfl, h4, h5, h6⟩
  · exact Or.inl h2
  · exact Or.inr ⟨g, cap, cur, rfl, h4, (hb g ⟨cap, rfl⟩).trans h5, h6⟩
theorem owns_lt {w : World} {xs : List Value} (h : w.ownsRow base e size (.slice (some ⟨g, 0, none⟩) n cap) n xs) : g < w.heap.size := by
  rcases h.2 with ⟨h2, _⟩ | ⟨g', cap', cur, hv, h4, h5, h6⟩
  · cases h2
  · obtain ⟨rfl, rfl⟩ : g = g' ∧ cap = cap' := by simpa using hv
    exact (Array.getElem?_eq_some_iff.1 h5).1
end
theorem grown_below {w w' : World} {row : Option Nat} (h : Below w.heap.size w w') : w.grownBy w' row := ⟨h.os, h.tape, h.output, h.size, fun k hk _ => h.block k hk⟩
section
variable {α : Type} {k : Nat} {enc : α → List Value}
/-- The cells of a row of elements. -/
def flat (enc : α → List Value) (d : List α) : List Value := d.flatMap enc
theorem flat_len (hk : ∀ x, (enc x).length = k) : ∀ d : List α, (flat enc d).length = d.length * k
  | [] => by simp [flat]
  | x :: r => by
    show (enc x ++ flat enc r).length = _
    rw [List.length_append, flat_len hk r, hk, List.length_cons, Nat.add_mul]
    omega
theorem flat_at (hk : ∀ x, (enc x).length = k) : ∀ (d : List α) (i r : Nat) (hi : i < d.length), r < k → (flat enc d)[i * k + r]? = (enc d[i])[r]?
  | [], i, r, hi, _ => absurd hi (Nat.not_lt_zero _)
  | x :: l, i, r, hi, hr => by
    show (enc x ++ flat enc l)[i * k + r]? = _
    cases i with
    | zero => rw [Nat.zero_mul, Nat.zero_add, List.getElem?_append_left (by rw [hk]; exact hr)]; rfl
    | succ i =>
      have e : (i + 1) * k + r - k = i * k + r := by rw [Nat.add_mul]; omega
      rw [List.getElem?_append_right (by rw [hk, Nat.add_mul]; omega), hk, e, flat_at hk l i r (by simpa using hi) hr]
      rfl
theorem flat_snoc (d : List α) (x : α) : flat enc (d ++ [x]) = flat enc d ++ enc x := by simp [flat]
theorem flat_ext (hk : ∀ x, (enc x).length = k) {xs : List Value} {d : List α} (hl : xs.length = d.length * k) (h : ∀ i r (hi : i < d.length), r < k → xs[i * k + r]? = (enc d[i])[r]?) : xs = flat enc d := List.ext_getElem? fun j => by
  by_cases hj : j < d.length * k
  · have hk0 : 0 < k := Nat.pos_of_ne_zero (fun e => by rw [e, Nat.mul_zero] at hj; exact absurd hj (Nat.not_lt_zero _))
    have h1 : j / k < d.length := Nat.div_lt_of_lt_mul (by rw [Nat.mul_comm]; exact hj)
    have h2 : j % k < k := Nat.mod_lt _ hk0
    have h3 : j / k * k + j % k = j := by rw [Nat.mul_comm]; exact Nat.div_add_mod j k
    rw [← h3, h _ _ h1 h2, flat_at hk d _ _ h1 h2]
  · rw [List.getElem?_eq_none (by omega), List.getElem?_eq_none (by rw [flat_len hk]; omega)]
theorem flat_set (hk : ∀ x, (enc x).length = k) (d : List α) (i : Nat) (x : α) (hi : i < d.length) : splice (flat enc d) (i * k) (enc x) = flat enc (d.set i x) := by
  have hb : i * k + k ≤ d.length * k := by
    have := Nat.mul_le_mul_right k (show i + 1 ≤ d.length from hi)
    rw [Nat.add_mul] at this
    omega
  refine flat_ext hk (by rw [splice_len, flat_len hk, List.length_set]) fun j r hj hr => ?_
  rw [List.length_set] at hj
  by_cases h : j = i
  · subst h
    rw [splice_in _ _ _ _ (by rw [flat_len hk, hk]; exact hb) (by rw [hk]; exact hr), List.getElem_set_self]
  · rw [splice_out _ _ _ _ ?_, flat_at hk d j r hj hr, List.getElem_set_ne (Ne.symm h)]
    rw [hk]
    rcases Nat.lt_or_gt_of_ne h with h | h
    · left
      have := Nat.mul_le_mul_right k (show j + 1 ≤ i from h)
      rw [Nat.add_mul] at this
      omega
    · right
      have := Nat.mul_le_mul_right k (show i + 1 ≤ j from h)
      rw [Nat.add_mul] at this
      omega
end
section
variable {α : Type} [Inhabited α] {k : Nat} {enc : α → List Value}
theorem swp_list (d : Array α) (i j : Nat) (hi : i < d.size) (hj : j < d.size) : (Go.Sort.swp d i j).toList = (d.toList.set i d[j]).set j d[i] := by
  simp [Go.Sort.swp, getElem!_pos d i hi, getElem!_pos d j hj]
/-- The row (a block of its own, from the world W0 on) holds the elements d. -/
def RowSt (W0 : World) (base : Nat) (e : TypeId) (k g c n : Nat) (enc : α → List Value) (d : Array α) (w : World) : Prop :=
  d.size = n ∧ w.ownsRow base e k (.slice (some ⟨g, 0, none⟩) n c) n (flat enc d.toList) ∧ W0.grownBy w (some g)
variable {P : Program} {ρ : Ren} {T : TypeId} {gl gs gn : Nat} {lt : α → α → Bool} {n base g c : Nat} {e : TypeId} {W0 : World}
theorem sorts_rows (hg : g < W0.heap.size)
    (hl : ∀ (d : Array α) (w : World), d.size = n → w.ownsRow base e k (.slice (some ⟨g, 0, none⟩) n c) n (flat enc d.toList) → ∀ i j : Nat, i < n → j < n →
      Calls P gl #[.slice (some ⟨g, 0, none⟩) n c, .int .i64 i, .int .i64 j] w (fun e w' => e = .returned (.bool (lt d[i]! d[j]!)) ∧ Below w.heap.size w w'))
    (hs : ∀ (d : Array α) (w : World), d.size = n → w.ownsRow base e k (.slice (some ⟨g, 0, none⟩) n c) n (flat enc d.toList) → ∀ i j : Nat, i < n → j < n →
      Calls P gs #[.slice (some ⟨g, 0, none⟩) n c, .int .i64 i, .int .i64 j] w (fun e' w' => e' = .returned (.tuple #[]) ∧ w'.ownsRow base e k (.slice (some ⟨g, 0, none⟩) n c) n (flat enc (Go.Sort.swp d i j).toList) ∧ w.grownBy w' (some g))) :
    Sorts P gl gs (.slice (some ⟨g, 0, none⟩) n c) lt n W0.heap.size (RowSt W0 base e k g c n enc) where
  size := fun d w h => h.1
  base := fun d w h => h.2.2.size
  keep := fun d w w' h hb => ⟨h.1, owns_block h.2.1 (fun b hv => by
      obtain ⟨c', hv⟩ := hv
      obtain ⟨rfl, rfl⟩ : g = b ∧ c = c' := by simpa using hv
      exact hb.block _ hg), ⟨hb.os.trans h.2.2.os, hb.tape.trans h.2.2.tape, hb.output.trans h.2.2.output, Nat.le_trans h.2.2.size hb.size, fun i hi hne => (hb.block i hi).trans (h.2.2.block i hi hne)⟩⟩
  less := fun d w h i j hi hj => hl d w h.1 h.2.1 i j hi hj
  swap := fun d w h i j hi hj => (hs d w h.1 h.2.1 i j hi hj).mono fun _ _ ⟨he, ho, hg'⟩ =>
    ⟨he, ⟨by rw [Go.Sort.size_swp]; exact h.1, ho, h.2.2.trans hg'⟩, hg'.size, fun b hb hb2 => hg'.block b hb2 (fun e => by cases e; omega)⟩
/-- sort.Sort over a row of elements of k cells: a permutation, sorted; nothing else is turned. -/
theorem sort_rows (L : Go.Proofs.LaysGt.n11 P ρ) (rN : Reaches P T (.slice (some ⟨g, 0, none⟩) n c) "Len" gn) (rL : Reaches P T (.slice (some ⟨g, 0, none⟩) n c) "Less" gl) (rS : Reaches P T (.slice (some ⟨g, 0, none⟩) n c) "Swap" gs) (hO : Go.Sort.SWO lt) (hsz : n < 4611686018427387904)
    (hn : ∀ w, Calls P gn #[.slice (some ⟨g, 0, none⟩) n c] w (fun e w' => e = .returned (.int .i64 n) ∧ Below w.heap.size w w'))
    (hl : ∀ (d : Array α) (w : World), d.size = n → w.ownsRow base e k (.slice (some ⟨g, 0, none⟩) n c) n (flat enc d.toList) → ∀ i j : Nat, i < n → j < n →
      Calls P gl #[.slice (some ⟨g, 0, none⟩) n c, .int .i64 i, .int .i64 j] w (fun e w' => e = .returned (.bool (lt d[i]! d[j]!)) ∧ Below w.heap.size w w'))
    (hs : ∀ (d : Array α) (w : World), d.size = n → w.ownsRow base e k (.slice (some ⟨g, 0, none⟩) n c) n (flat enc d.toList) → ∀ i j : Nat, i < n → j < n →
      Calls P gs #[.slice (some ⟨g, 0, none⟩) n c, .int .i64 i, .int .i64 j] w (fun e' w' => e' = .returned (.tuple #[]) ∧ w'.ownsRow base e k (.slice (some ⟨g, 0, none⟩) n c) n (flat enc (Go.Sort.swp d i j).toList) ∧ w.grownBy w' (some g)))
    (d : List α) (w : World) (hd : d.length = n) (ho : w.ownsRow base e k (.slice (some ⟨g, 0, none⟩) n c) n (flat enc d)) :
    Calls P (ρ.f 11) #[.iface T (.slice (some ⟨g, 0, none⟩) n c)] w (fun e' w' => e' = .returned (.tuple #[]) ∧ ∃ d' : List α, d'.Perm d ∧ d'.Pairwise (fun x y => lt y x = false) ∧ w'.ownsRow base e k (.slice (some ⟨g, 0, none⟩) n c) n (flat enc d') ∧ w.grownBy w' (some g)) := by
  refine (sort_any (St := RowSt w base e k g c n enc) L rN rL rS (sorts_rows (owns_lt ho) hl hs) hO hsz d.toArray w ⟨by simpa using hd, by simpa using ho, ⟨rfl, rfl, rfl, Nat.le_refl _, fun _ _ _ => rfl⟩⟩ (fun w' _ => hn w')).mono ?_
  rintro e' w' ⟨rfl, ⟨d', ⟨⟨h1, _, h3⟩, h4⟩, h5, h6, h7⟩, _⟩
  refine ⟨rfl, d'.toList, ?_, ?_, h6, h7⟩
  · rw [List.size_toArray] at h3
    have e1 : d'.extract 0 d.length = d' := by rw [show d.length = d'.size by rw [h1]; simp]; simp
    rw [e1] at h3
    simpa using h3
  · rw [List.pairwise_iff_getElem]
    intro i j hi hj hij
    have := h4 i j (Nat.zero_le _) hij (by rw [List.size_toArray, hd, ← h5]; simpa using hj)
    rw [getElem!_pos d' j (by simpa using hj), getElem!_pos d' i (by simpa using hi)] at this
    simpa using this
end
end Go.Proofs.YtokehapgddicjaaGreatFmt
