/- The tokens of a sum, as a list. -/
import Derived.Test.YtlajoolgfhlmkaaGreatFmtT2
namespace Go.Proofs.YtlajoolgfhlmkaaGreatFmt
open Go.RowKit
set_option linter.unusedVariables false

/-- A token of the sum: a value, or an operator. -/
inductive Tok where
  | val (s : ByteArray)
  | op (minus : Bool)
abbrev opK (m : Bool) : Int := if m then 22 else 23
abbrev opS (m : Bool) : ByteArray := if m then { data := #[45] } else { data := #[43] }
def Tok.cells : Tok → List Value
  | .val s => (tokR 29 s (.pointer none) 0).toList
  | .op m => (tokR (opK m) (opS m) (.pointer none) 3).toList
theorem Tok.len (t : Tok) : t.cells.length = 7 := by cases t <;> rfl
theorem Tok.one (t : Tok) : ∀ u ∈ t.cells, u.oneCell' = true := by
  intro u hu
  cases t <;> simp [Tok.cells] at hu <;> rcases hu with rfl | rfl | rfl | rfl | rfl | rfl | rfl <;> rfl
def cellsT (l : List Tok) : List Value := l.flatMap Tok.cells
theorem cellsT_append (a b : List Tok) : cellsT (a ++ b) = cellsT a ++ cellsT b := List.flatMap_append
theorem cellsT_length (l : List Tok) : (cellsT l).length = l.length * 7 := by
  induction l with
  | nil => rfl
  | cons r rs ih => simp only [cellsT, List.flatMap_cons, List.length_append] at *; rw [ih, Tok.len]; simp; omega
theorem cellsT_get (l : List Tok) (k r : Nat) (t : Tok) (h : l[k]? = some t) (hr : r < 7) : (cellsT l)[k * 7 + r]? = t.cells[r]? := by
  induction l generalizing k with
  | nil => simp at h
  | cons x xs ih =>
    have e : cellsT (x :: xs) = x.cells ++ cellsT xs := rfl
    rw [e]
    cases k with
    | zero =>
      simp at h
      subst h
      rw [List.getElem?_append_left (by rw [Tok.len]; omega)]
      simp
    | succ k =>
      rw [List.getElem?_append_right (by rw [Tok.len]; omega), Tok.len, show (k + 1) * 7 + r - 7 = k * 7 + r by omega]
      exact ih k (by simpa using h)
/-- The tokens of the terms behind the first; of all. -/
def toksFrom (ts : List TD) : List Tok := ts.flatMap fun t => [.op (t.kd == 1), .val t.s]
theorem toksFrom_append (a b : List TD) : toksFrom (a ++ b) = toksFrom a ++ toksFrom b := List.flatMap_append
theorem toksFrom_length (ts : List TD) : (toksFrom ts).length = ts.length * 2 := by
  induction ts with
  | nil => rfl
  | cons r rs ih => simp only [toksFrom, List.flatMap_cons, List.length_append] at *; simp [ih]; omega
theorem toksFrom_get (ts : List TD) (k : Nat) (t : TD) (h : ts[k]? = some t) : (toksFrom ts)[k * 2]? = some (.op (t.kd == 1)) ∧ (toksFrom ts)[k * 2 + 1]? = some (.val t.s) := by
  induction ts generalizing k with
  | nil => simp at h
  | cons x xs ih =>
    have e : toksFrom (x :: xs) = .op (x.kd == 1) :: .val x.s :: toksFrom xs := rfl
    rw [e]
    cases k with
    | zero =>
      simp at h
      subst h
      exact ⟨rfl, rfl⟩
    | succ k =>
      have := ih k (by simpa using h)
      rw [show (k + 1) * 2 = k * 2 + 1 + 1 by omega]
      simpa using this
def toksOf : List TD → List Tok
  | [] => []
  | t :: r => .val t.s :: toksFrom r
theorem toksOf_length (ts : List TD) (h : 0 < ts.length) : (toksOf ts).length = ts.length * 2 - 1 := by
  cases ts with
  | nil => simp at h
  | cons t r => simp [toksOf, toksFrom_length]; omega
theorem toksOf_val (ts : List TD) (k : Nat) (t : TD) (h : ts[k]? = some t) : (toksOf ts)[k * 2]? = some (.val t.s) := by
  cases ts with
  | nil => simp at h
  | cons x r =>
    cases k with
    | zero => simp at h; subst h; rfl
    | succ k =>
      rw [show (k + 1) * 2 = k * 2 + 1 + 1 by omega]
      simpa [toksOf] using (toksFrom_get r k t (by simpa using h)).2
theorem toksOf_op (ts : List TD) (k : Nat) (t : TD) (h : ts[k + 1]? = some t) : (toksOf ts)[k * 2 + 1]? = some (.op (t.kd == 1)) := by
  cases ts with
  | nil => simp at h
  | cons x r => simpa [toksOf] using (toksFrom_get r k t (by simpa using h)).1
theorem toks_step (t0 : TD) (r : List TD) (k : Nat) (t : TD) (h : r[k]? = some t) : toksOf (t0 :: r.take (k + 1)) = toksOf (t0 :: r.take k) ++ [.op (t.kd == 1), .val t.s] := by
  obtain ⟨hk, e⟩ := List.getElem?_eq_some_iff.1 h
  simp only [toksOf]
  rw [List.take_succ_eq_append_getElem hk, toksFrom_append, e]
  rfl
theorem new_row (w : World) (B : Nat) (hB : w.heap.size = B) (cs : Array Value) (T : TypeId) (fr : Nat × Nat) : ∀ j u, cs.toList[j]? = some u → (w.alloc (.cells cs T fr)).cell? ((⟨B, 0, none⟩ : Addr).add j) = some u := by
  intro j u h
  subst hB
  have e := heap_alloc_new w (.cells cs T fr)
  have ha : (⟨w.heap.size, 0, none⟩ : Addr).add j = ⟨w.heap.size, j, none⟩ := by unfold Addr.add; split <;> simp_all
  rw [ha, cell_of_row _ _ _ _ _ _ e]
  simpa [← Array.getElem?_toList] using h
theorem tok_info : (Tryz.prog.info? 41).map (fun i => (i.zero, i.size, i.bytes)) = some (some (.agg tok0), 7, 40) := by kernel_rfl
end Go.Proofs.YtlajoolgfhlmkaaGreatFmt
