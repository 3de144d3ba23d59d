/- The joiner's bytes: texts and bytes copied into one row. -/
import Derived.Test.YtdoakedpkjlipaaFmtJ5
import Derived.Lib.LazyBuf
import Derived.Laws.CopyOwn
namespace Go.Proofs.YtdoakedpkjlipaaFmt
open Go.RowKit
set_option linter.unusedVariables false

theorem splice_get {α : Type} (cur cs : List α) (off i : Nat) (h : off + cs.length ≤ cur.length) : (splice cur off cs)[i]? = if off ≤ i ∧ i < off + cs.length then cs[i - off]? else cur[i]? := by
  have e1 : (cur.take off).length = off := by simp; omega
  simp only [splice, List.getElem?_append, e1, List.getElem?_take, List.getElem?_drop]
  by_cases h1 : i < off
  · rw [if_pos h1, if_pos h1, if_neg (by omega)]
  · rw [if_neg h1]
    by_cases h2 : i < off + cs.length
    · rw [if_pos (by omega), if_pos ⟨by omega, h2⟩]
    · rw [if_neg (by omega), if_neg (by omega)]
      congr 1
      omega
theorem splice_len {α : Type} (cur cs : List α) (off : Nat) (h : off + cs.length ≤ cur.length) : (splice cur off cs).length = cur.length := by
  simp [splice]; omega
theorem splice_map {α β : Type} (f : α → β) (cur cs : List α) (off : Nat) : splice (cur.map f) off (cs.map f) = (splice cur off cs).map f := by
  simp [splice]
theorem heap_setCells {b : Nat} {t : TypeId} : ∀ (cs : List Value) (off : Nat) (w : World) (cur : List Value), w.heap[b]? = some (.cells cur.toArray t (0, 0)) → off + cs.length ≤ cur.length → (w.setCells b off cs).heap[b]? = some (.cells (splice cur off cs).toArray t (0, 0))
  | [], off, w, cur, h, hl => by simpa [World.setCells, splice] using h
  | v :: r, off, w, cur, h, hl => by
    have h1 := heap_setCell_same w b off _ t v h
    simp only [List.length_cons] at hl
    have h2 := heap_setCells (b := b) (t := t) r (off + 1) (w.setCell ⟨b, off, none⟩ v) (cur.set off v) (by rw [h1]; simp) (by simp; omega)
    have e : splice (cur.set off v) (off + 1) r = splice cur off (v :: r) := by
      apply List.ext_getElem?
      intro i
      rw [splice_get _ _ _ _ (by simp; omega), splice_get _ _ _ _ (by simp; omega)]
      by_cases h3 : off + 1 ≤ i ∧ i < off + 1 + r.length
      · rw [if_pos h3, if_pos (by simp; omega), show i - off = (i - (off + 1)) + 1 by omega]
        simp
      · rw [if_neg h3, List.getElem?_set]
        by_cases h4 : off = i
        · subst h4
          rw [if_pos rfl, if_pos (by omega), if_pos (by simp)]
          simp
        · rw [if_neg h4, if_neg (by simp; omega)]
    rw [← e]
    exact h2
abbrev bv (x : UInt8) : Value := .int .u8 (x.toNat : Int)
abbrev outAt (out : List UInt8) (off : Nat) : Nat → Value := fun i => bv (out.getD (off + i) 0)
/-- A joiner's entries spell out. -/
structure Spells (w : World) (ss : List (ByteArray × Nat)) (bs : List BEnt) (out : List UInt8) : Prop where
  str : ∀ e ∈ ss, e.2 + e.1.size ≤ out.length ∧ ∀ i, i < e.1.size → e.1.data.toList[i]? = out[e.2 + i]?
  byt : ∀ e ∈ bs, e.off + e.n ≤ out.length ∧ e.n ≤ e.c ∧ RowAt w e.a e.n (outAt out e.off)
  all : ∀ i, i < out.length → (∃ e ∈ ss, e.2 ≤ i ∧ i < e.2 + e.1.size) ∨ (∃ e ∈ bs, e.off ≤ i ∧ i < e.off + e.n)
theorem row_of_owns {w : World} {base : Nat} {e : TypeId} {size n : Nat} {v : Value} {xs : List Value} (h : w.ownsRow base e size v n xs) : ∃ a c, v = .slice a n c ∧ n ≤ c ∧ c ≤ maxLen ∧ RowAt w a (n * size) (fun i => xs.getD i undef) := by
  have hl := h.1
  rcases h.2 with ⟨rfl, rfl⟩ | ⟨g, cap, cur, rfl, h0, hgg, h1, h2, h3, h4⟩
  · exact ⟨_, _, rfl, Nat.le_refl _, Nat.zero_le _, by rw [Nat.zero_mul]; exact RowAt.zero _ _ _⟩
  · refine ⟨_, _, rfl, h1, h2, fun h0 => ⟨g, 0, rfl, fun i hi => ?_⟩⟩
    rw [Nat.zero_add]
    have := World.ownsRow.cells h (g := g) rfl i (xs.getD i undef) (by rw [List.getD_eq_getElem?_getD, List.getElem?_eq_getElem (by omega)]; rfl)
    rwa [Addr.add_mid, Nat.zero_add] at this
theorem cellsS_length (l : List (ByteArray × Nat)) : (cellsS l).length = l.length * 2 := by
  induction l with
  | nil => rfl
  | cons r rs ih => simp only [cellsS, List.flatMap_cons, List.length_append] at *; simp [ih]; omega
theorem cellsB_length (l : List BEnt) : (cellsB l).length = l.length * 2 := by
  induction l with
  | nil => rfl
  | cons r rs ih => simp only [cellsB, List.flatMap_cons, List.length_append] at *; simp [ih]; omega
theorem cellsS_get (l : List (ByteArray × Nat)) (k : Nat) (e : ByteArray × Nat) (h : l[k]? = some e) : (cellsS l).getD (k * 2) undef = .string e.1 ∧ (cellsS l).getD (k * 2 + 1) undef = .int .u32 e.2 := by
  induction l generalizing k with
  | nil => simp at h
  | cons r rs ih =>
    cases k with
    | zero => simp at h; subst h; exact ⟨rfl, rfl⟩
    | succ k =>
      have := ih k (by simpa using h)
      rw [show (k + 1) * 2 = k * 2 + 1 + 1 by omega]
      simpa [cellsS] using this
theorem cellsB_get (l : List BEnt) (k : Nat) (e : BEnt) (h : l[k]? = some e) : (cellsB l).getD (k * 2) undef = .slice e.a e.n e.c ∧ (cellsB l).getD (k * 2 + 1) undef = .int .u32 e.off := by
  induction l generalizing k with
  | nil => simp at h
  | cons r rs ih =>
    cases k with
    | zero => simp at h; subst h; exact ⟨rfl, rfl⟩
    | succ k =>
      have := ih k (by simpa using h)
      rw [show (k + 1) * 2 = k * 2 + 1 + 1 by omega]
      simpa [cellsB] using this
theorem u8_info : (Tryf.prog.info? 5).map (fun i => (i.zero, i.size, i.bytes)) = some (some (.int .u8 0), 1, 1) := by kernel_rfl
/-- The row under way agrees with out wherever the first entries lie. -/
def Fits (cur out : List UInt8) (l : List (Nat × Nat)) : Prop := cur.length = out.length ∧ ∀ e ∈ l, ∀ i, e.1 ≤ i → i < e.1 + e.2 → cur[i]? = out[i]?
theorem Fits.step {cur out cs : List UInt8} {l : List (Nat × Nat)} {off : Nat} (h : Fits cur out l) (hl : off + cs.length ≤ out.length) (hc : ∀ i, i < cs.length → cs[i]? = out[off + i]?) : Fits (splice cur off cs) out (l ++ [(off, cs.length)]) := by
  have hl' : off + cs.length ≤ cur.length := by rw [h.1]; exact hl
  refine ⟨by rw [splice_len _ _ _ hl', h.1], fun e he i h1 h2 => ?_⟩
  rw [splice_get _ _ _ _ hl']
  by_cases h3 : off ≤ i ∧ i < off + cs.length
  · rw [if_pos h3, hc _ (by omega)]
    congr 1
    omega
  · rw [if_neg h3]
    rcases List.mem_append.1 he with he | he
    · exact h.2 e he i h1 h2
    · simp at he
      subst he
      exact absurd ⟨h1, h2⟩ h3
end Go.Proofs.YtdoakedpkjlipaaFmt
