/- The infinite number is refused; the makers of terms. -/
import Derived.Test.YtlajoolgfhlmkaaGreatFmtT1
import Derived.OwnWalk
import Derived.WalkMore
namespace Go.Proofs.YtlajoolgfhlmkaaGreatFmt
open Go.RowKit
set_option linter.unusedVariables false

set_option maxRecDepth 100000 in
set_option maxHeartbeats 400000 in
theorem f2s_any (f : Nat) (hf : IsInf f) (w : World) : Calls Tryz.prog 16 #[.float .f64 f] w fun e w' => e = .returned (.tuple #[.string { data := #[] }, .bool false]) ∧ w = w' := by
  have H1 := Lib.hid (isnan_any f hf)
  have H2 := Lib.hid (isinf_any f hf)
  clear hf
  go_enter Tryz.func16, Tryz.ntmps16
  go_wp2_with (first | (go_at_call 17; refine (H1.out _).mono ?_; rintro e w1 ⟨rfl, rfl⟩) | (go_at_call 18; refine (H2.out _).mono ?_; rintro e w1 ⟨rfl, rfl⟩))
  go_ret2
  exact ⟨rfl, rfl⟩
/-- The cells of a numeric term. -/
abbrev numR (f : Nat) : Array Value := #[.string { data := #[] }, .float .f64 f, .int .i32 0]
abbrev tok0 : Array Value := #[.pointer none, .string { data := #[] }, .int .i32 0, .int .u32 0, .int .u16 0, .int .u8 0, .int .u8 0]
set_option maxRecDepth 100000 in
set_option maxHeartbeats 400000 in
theorem numeric_any (b f : Nat) (hf : IsInf f) (ws : Int) (w : World) (h : w.cell? ⟨b, 1, none⟩ = some (.float .f64 f)) :
    Calls Tryz.prog 15 #[.pointer (some ⟨b, 0, none⟩), .int .u8 ws] w fun e w' => e = .returned (.tuple #[.agg tok0, .bool false]) ∧ Below w.heap.size w w' := by
  have hb : b < w.heap.size := block_lt_of_cell h
  have H1 := Lib.hid (f2s_any f hf)
  clear hf
  go_enter Tryz.func15, Tryz.ntmps15
  go_wp2_with (first | (go_at_call 16; refine (H1.out _).mono ?_; rintro e w1 ⟨rfl, rfl⟩) | fail)
  refine bodyPost_ret (results_row_tmp rfl _ _ w.heap.size 41 _ (0, 0) _ rfl (heap_alloc_new _ _) Tryz.underlying41 rfl (by kernel_rfl)) rfl ⟨rfl, ?_⟩
  exact (Below.refl _ _).alloc (Nat.le_refl _) _

/-- A term: 0 a value, 1 a negated value, else an infinite number; its block; the value's block. -/
structure TD where
  kd : Nat
  s : ByteArray
  b : Nat
  c : Nat
def TD.data (t : TD) : Value := .iface (if t.kd = 0 then 53 else if t.kd = 1 then 52 else 45) (.pointer (some ⟨t.b, 0, none⟩))
def TD.ok (t : TD) (w : World) : Prop :=
  if t.kd = 0 then w.heap[t.b]? = some (.cells (valR t.s) 55 (0, 0))
  else if t.kd = 1 then w.heap[t.b]? = some (.cells #[.iface 53 (.pointer (some ⟨t.c, 0, none⟩)), .int .i32 0] 57 (0, 0)) ∧ w.heap[t.c]? = some (.cells (valR t.s) 55 (0, 0))
  else ∃ f, IsInf f ∧ w.heap[t.b]? = some (.cells (numR f) 47 (0, 0))
theorem TD.ok_below {t : TD} {w w' : World} (h : t.ok w) (hb : Below w.heap.size w w') : t.ok w' := by
  have key : ∀ b o, w.heap[b]? = some o → w'.heap[b]? = some o := fun b o ho => (hb.block b (Array.getElem?_eq_some_iff.1 ho).1).trans ho
  unfold TD.ok at *
  split at h
  · rw [if_pos ‹_›]; exact key _ _ h
  · rw [if_neg ‹_›]
    split at h
    · rw [if_pos ‹_›]; exact ⟨key _ _ h.1, key _ _ h.2⟩
    · rw [if_neg ‹_›]; obtain ⟨f, hf, h⟩ := h; exact ⟨f, hf, key _ _ h⟩
def cellsD (ts : List TD) : List Value := ts.flatMap fun t => [t.data, .int .i32 0]
theorem cellsD_append (a b : List TD) : cellsD (a ++ b) = cellsD a ++ cellsD b := List.flatMap_append
theorem cellsD_length (ts : List TD) : (cellsD ts).length = ts.length * 2 := by
  induction ts with
  | nil => rfl
  | cons r rs ih => simp only [cellsD, List.flatMap_cons, List.length_append] at *; simp [ih]; omega
theorem cellsD_get (ts : List TD) (k : Nat) (h : k < ts.length) : (cellsD ts).getD (k * 2) undef = ts[k].data ∧ (cellsD ts).getD (k * 2 + 1) undef = .int .i32 0 := by
  induction ts generalizing k with
  | nil => simp at h
  | cons r rs ih =>
    cases k with
    | zero => simp [cellsD]
    | succ k =>
      have := ih k (by simpa using h)
      have e : ∀ j, (cellsD (r :: rs)).getD (j + 2) undef = (cellsD rs).getD j undef := fun j => by
        show ([r.data, .int .i32 0] ++ cellsD rs).getD (j + 2) undef = _
        simp
      constructor
      · rw [show (k + 1) * 2 = k * 2 + 2 by omega, e]; simpa using this.1
      · rw [show (k + 1) * 2 + 1 = k * 2 + 1 + 2 by omega, e]; simpa using this.2
theorem term_info : (Tryz.prog.info? 51).map (fun i => (i.zero, i.size, i.bytes)) = some (some (.agg #[.nilIface, .int .i32 0]), 2, 24) := by kernel_rfl
theorem new_cells (w : World) (B : Nat) (hB : w.heap.size = B) (x y : Value) (T : TypeId) (fr : Nat × Nat) : ∀ j u, ([x, y] : List Value)[j]? = some u → (w.alloc (.cells #[x, y] T fr)).cell? ((⟨B, 0, none⟩ : Addr).add j) = some u := by
  intro j u h
  subst hB
  have e := heap_alloc_new w (.cells #[x, y] T fr)
  have ha : (⟨w.heap.size, 0, none⟩ : Addr).add j = ⟨w.heap.size, j, none⟩ := by unfold Addr.add; split <;> simp_all
  rw [ha, cell_of_row _ _ _ _ _ _ e]
  simpa [← Array.getElem?_toList] using h
theorem two_one (x y : Value) (hx : x.oneCell' = true) (hy : y.oneCell' = true) : ∀ u ∈ ([x, y] : List Value), u.oneCell' = true := by
  intro u hu
  simp at hu
  rcases hu with rfl | rfl
  · exact hx
  · exact hy
theorem owns_in {w : World} {base : Nat} {e : TypeId} {size n : Nat} {v : Value} {xs : List Value} (h : w.ownsRow base e size v n xs) : ∀ k, v.ownBlock = some k → base ≤ k ∧ k < w.heap.size := by
  intro k hk
  rcases h.2 with ⟨rfl, _⟩ | ⟨g', cap', cur, rfl, h1, hg, _⟩
  · cases hk
  · cases hk; exact ⟨h1, (Array.getElem?_eq_some_iff.1 hg).1⟩
theorem TD.ok_grown {t : TD} {w wa w4 : World} {base n : Nat} {v : Value} {xs : List Value} (h : t.ok w) (hb : Below w.heap.size w wa) (hown : wa.ownsRow base 51 2 v n xs) (hg : wa.grownBy w4 v.ownBlock) : t.ok w4 := by
  have key : ∀ (b : Nat) (cs : Array Value) (T : TypeId), T ≠ 51 → w.heap[b]? = some (Obj.cells cs T (0, 0)) → w4.heap[b]? = some (Obj.cells cs T (0, 0)) := by
    intro b cs T hT ho
    have hlt := (Array.getElem?_eq_some_iff.1 ho).1
    have h1 := (hb.block b hlt).trans ho
    rw [hg.block b (Array.getElem?_eq_some_iff.1 h1).1 ?_]
    · exact h1
    · intro e
      rcases hown.2 with ⟨rfl, _⟩ | ⟨g, cap, cur, rfl, _, hgg, _⟩
      · cases e
      · have := Option.some.inj e
        simp at this
        subst this
        rw [hgg] at h1
        have h2 := Option.some.inj h1
        simp at h2
        exact hT h2.2.symm
  unfold TD.ok at *
  split at h
  · rw [if_pos ‹_›]; exact key _ _ _ (by decide) h
  · rw [if_neg ‹_›]
    split at h
    · rw [if_pos ‹_›]; exact ⟨key _ _ _ (by decide) h.1, key _ _ _ (by decide) h.2⟩
    · rw [if_neg ‹_›]; obtain ⟨f, hf, h⟩ := h; exact ⟨f, hf, key _ _ _ (by decide) h⟩
/-- What a maker leaves: the list with one term more. -/
def More (base : Nat) (ts : List TD) (P : TD → Prop) (w : World) (e : Ending) (w' : World) : Prop :=
  ∃ v t, e = .returned v ∧ P t ∧ w'.ownsRow base 51 2 v (ts.length + 1) (cellsD (ts ++ [t])) ∧ t.ok w' ∧ (∀ t' : TD, t'.ok w → t'.ok w') ∧ Below base w w'
set_option maxRecDepth 100000 in
set_option maxHeartbeats 400000 in
theorem withValue_any (base : Nat) (a : Option Addr) (n c : Nat) (ts : List TD) (s : ByteArray) (w : World) (hn : ts.length = n) (hn2 : n ≤ 65536) (hown : w.ownsRow base 51 2 (.slice a n c) n (cellsD ts)) (hb : base ≤ w.heap.size) :
    Calls Tryz.prog 11 #[.slice a n c, .int .u8 29, .string s] w (More base ts (fun t => t.kd = 0 ∧ t.s = s) w) := by
  obtain ⟨i0, hi, hz0, hz1, hz2⟩ := info_parts term_info
  have HO := Lib.hid hown
  clear hown
  have h1 : n + 1 ≤ maxLen := by unfold maxLen; omega
  have h2 : (n + 1) * 24 ≤ 140737488355328 := by omega
  go_enter Tryz.func11, Tryz.ntmps11
  go_wp2_with (at_builtin; go_loud (refine wpList_append_own _ rfl (.tmp 7) (.tmp 15) 30 rfl base 51 i0 _ 2 24 Tryz.underlying30 hi hz0 hz1 hz2 rfl (by decide) _ n (cellsD ts) rfl ((HO.out.alloc _).alloc _) ⟨w.heap.size + 1, 0, none⟩ 1 1 [.iface 53 (.pointer (some ⟨w.heap.size, 0, none⟩)), .int .i32 0] rfl rfl (new_cells _ _ (by simp) _ _ _ _) (two_one _ _ rfl rfl) h1 h2 (by simp; exact Nat.le_succ_of_le (Nat.le_succ_of_le hb)) ?_); intro v4 w4 hown4 hg4 hn4; have H4 := Lib.hid (And.intro hown4 hg4); clear hown4 hg4 hn4)
  go_ret
  refine ⟨_, ⟨0, s, w.heap.size, 0⟩, rfl, ⟨rfl, rfl⟩, by rw [cellsD_append, hn]; exact H4.out.1, ?_, fun t' h' => TD.ok_grown h' (((Below.refl _ _).alloc (Nat.le_refl _) _).alloc (by simp) _) ((HO.out.alloc _).alloc _) H4.out.2, ?_⟩
  · show w4.heap[w.heap.size]? = _
    rw [H4.out.2.block _ (by simp; omega) (fun h => by have := (owns_in HO.out _ h.symm).2; omega)]
    exact two_first _ _ _
  · exact (((Below.refl _ _).mono hb).alloc hb _ |>.alloc (by simp; exact Nat.le_succ_of_le hb) _).grown H4.out.2 (by simp; exact Nat.le_succ_of_le (Nat.le_succ_of_le hb)) (fun k h => (owns_in HO.out k h).1)
set_option maxRecDepth 100000 in
set_option maxHeartbeats 400000 in
theorem withNumeric_any (base : Nat) (a : Option Addr) (n c : Nat) (ts : List TD) (f : Nat) (hf : IsInf f) (w : World) (hn : ts.length = n) (hn2 : n ≤ 65536) (hown : w.ownsRow base 51 2 (.slice a n c) n (cellsD ts)) (hb : base ≤ w.heap.size) :
    Calls Tryz.prog 9 #[.slice a n c, .string { data := #[] }, .float .f64 f] w (More base ts (fun t => t.kd = 2) w) := by
  obtain ⟨i0, hi, hz0, hz1, hz2⟩ := info_parts term_info
  have HO := Lib.hid hown
  have HF := Lib.hid hf
  clear hown hf
  have h1 : n + 1 ≤ maxLen := by unfold maxLen; omega
  have h2 : (n + 1) * 24 ≤ 140737488355328 := by omega
  go_enter Tryz.func9, Tryz.ntmps9
  go_wp2_with (at_builtin; go_loud (refine wpList_append_own _ rfl (.tmp 7) (.tmp 14) 30 rfl base 51 i0 _ 2 24 Tryz.underlying30 hi hz0 hz1 hz2 rfl (by decide) _ n (cellsD ts) rfl ((HO.out.alloc _).alloc _) ⟨w.heap.size + 1, 0, none⟩ 1 1 [.iface 45 (.pointer (some ⟨w.heap.size, 0, none⟩)), .int .i32 0] rfl rfl (new_cells _ _ (by simp) _ _ _ _) (two_one _ _ rfl rfl) h1 h2 (by simp; exact Nat.le_succ_of_le (Nat.le_succ_of_le hb)) ?_); intro v4 w4 hown4 hg4 hn4; have H4 := Lib.hid (And.intro hown4 hg4); clear hown4 hg4 hn4)
  go_ret
  refine ⟨_, ⟨2, ByteArray.empty, w.heap.size, 0⟩, rfl, rfl, by rw [cellsD_append, hn]; exact H4.out.1, ⟨f, HF.out, ?_⟩, fun t' h' => TD.ok_grown h' (((Below.refl _ _).alloc (Nat.le_refl _) _).alloc (by simp) _) ((HO.out.alloc _).alloc _) H4.out.2, ?_⟩
  · show w4.heap[w.heap.size]? = _
    rw [H4.out.2.block _ (by simp; omega) (fun h => by have := (owns_in HO.out _ h.symm).2; omega)]
    exact two_first _ _ _
  · exact (((Below.refl _ _).mono hb).alloc hb _ |>.alloc (by simp; exact Nat.le_succ_of_le hb) _).grown H4.out.2 (by simp; exact Nat.le_succ_of_le (Nat.le_succ_of_le hb)) (fun k h => (owns_in HO.out k h).1)
set_option maxRecDepth 100000 in
set_option maxHeartbeats 400000 in
theorem withNegated_any (base : Nat) (a : Option Addr) (n c : Nat) (ts : List TD) (s : ByteArray) (w : World) (hn : ts.length = n) (hn2 : n ≤ 65536) (hown : w.ownsRow base 51 2 (.slice a n c) n (cellsD ts)) (hb : base ≤ w.heap.size) :
    Calls Tryz.prog 10 #[.slice a n c, .int .u8 29, .string s] w (More base ts (fun t => t.kd = 1 ∧ t.s = s) w) := by
  obtain ⟨i0, hi, hz0, hz1, hz2⟩ := info_parts term_info
  have HO := Lib.hid hown
  clear hown
  have h1 : n + 1 ≤ maxLen := by unfold maxLen; omega
  have h2 : (n + 1) * 24 ≤ 140737488355328 := by omega
  go_enter Tryz.func10, Tryz.ntmps10
  go_wp2_with (at_builtin; go_loud (refine wpList_append_own _ rfl (.tmp 7) (.tmp 19) 30 rfl base 51 i0 _ 2 24 Tryz.underlying30 hi hz0 hz1 hz2 rfl (by decide) _ n (cellsD ts) rfl (((HO.out.alloc _).alloc _).alloc _) ⟨w.heap.size + 2, 0, none⟩ 1 1 [.iface 52 (.pointer (some ⟨w.heap.size + 1, 0, none⟩)), .int .i32 0] rfl rfl (new_cells _ _ (by simp) _ _ _ _) (two_one _ _ rfl rfl) h1 h2 (by simp; omega) ?_); intro v4 w4 hown4 hg4 hn4; have H4 := Lib.hid (And.intro hown4 hg4); clear hown4 hg4 hn4)
  go_ret
  refine ⟨_, ⟨1, s, w.heap.size + 1, w.heap.size⟩, rfl, ⟨rfl, rfl⟩, by rw [cellsD_append, hn]; exact H4.out.1, ⟨?_, ?_⟩, fun t' h' => TD.ok_grown h' ((((Below.refl _ _).alloc (Nat.le_refl _) _).alloc (by simp) _).alloc (by simp; omega) _) (((HO.out.alloc _).alloc _).alloc _) H4.out.2, ?_⟩
  · show w4.heap[w.heap.size + 1]? = _
    rw [H4.out.2.block _ (by simp) (fun h => by have := (owns_in HO.out _ h.symm).2; omega), heap_alloc_old _ _ (by simp)]
    exact two_second _ _ _
  · show w4.heap[w.heap.size]? = _
    rw [H4.out.2.block _ (by simp; omega) (fun h => by have := (owns_in HO.out _ h.symm).2; omega), heap_alloc_old _ _ (by simp; omega)]
    exact two_first _ _ _
  · exact ((((Below.refl _ _).mono hb).alloc hb _ |>.alloc (by simp; exact Nat.le_succ_of_le hb) _).alloc (by simp; omega) _).grown H4.out.2 (by simp; omega) (fun k h => (owns_in HO.out k h).1)
end Go.Proofs.YtlajoolgfhlmkaaGreatFmt
