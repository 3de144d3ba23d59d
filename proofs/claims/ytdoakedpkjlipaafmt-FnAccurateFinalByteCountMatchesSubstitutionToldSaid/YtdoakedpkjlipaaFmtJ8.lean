/- The state of a substitution under way. -/
import Derived.Test.YtdoakedpkjlipaaFmtJ7
namespace Go.Proofs.YtdoakedpkjlipaaFmt
open Go.RowKit
set_option linter.unusedVariables false

theorem owns_grown {w w' : World} {base n size : Nat} {T : TypeId} {v : Value} {xs : List Value} {b : Nat} (h : w.ownsRow base T size v n xs) (hg : w.grownBy w' (some b)) (hb : b < base ∨ ∃ cs U fr, w.heap[b]? = some (.cells cs U fr) ∧ U ≠ T) : w'.ownsRow base T size v n xs := by
  refine h.kept hg ?_
  rcases h.2 with ⟨rfl, _⟩ | ⟨g, cap, cur, rfl, hge, hgg, _⟩
  · exact Or.inl rfl
  · refine Or.inr fun e => ?_
    have := Option.some.inj e
    simp at this
    subst this
    rcases hb with hb | ⟨cs, U, fr, hb, hU⟩
    · omega
    · rw [hgg] at hb
      have h2 := Option.some.inj hb
      simp at h2
      exact hU h2.2.1.symm
theorem owns_jkept {w w' : World} {base B J n size : Nat} {T : TypeId} {v : Value} {xs : List Value} (h : w.ownsRow base T size v n xs) (hg : JKept B J w w') (hJ : J < base) (h1 : T ≠ 197) (h2 : T ≠ 195) : w'.ownsRow base T size v n xs := by
  refine ⟨h.1, ?_⟩
  rcases h.2 with h' | ⟨g, cap, cur, hv, hge, hgg, r⟩
  · exact Or.inl h'
  · exact Or.inr ⟨g, cap, cur, hv, hge, hg.other _ _ _ _ hgg (by omega) h1 h2, r⟩
theorem JoinSt.grown {w w' : World} {base J b L : Nat} {ss : List (ByteArray × Nat)} {bs : List BEnt} (h : JoinSt base J w ss bs L) (hg : w.grownBy w' (some b)) (hb : b ≠ J) (hb2 : b < base ∨ ∃ cs U fr, w.heap[b]? = some (.cells cs U fr) ∧ U ≠ 197 ∧ U ≠ 195) : JoinSt base J w' ss bs L := by
  obtain ⟨hne, vs, vb, lb, hJ, hS, hB⟩ := h
  refine ⟨hne, vs, vb, lb, ?_, owns_grown hS hg ?_, owns_grown hB hg ?_⟩
  · rw [hg.block J (Array.getElem?_eq_some_iff.1 hJ).1 (fun e => hb (Option.some.inj e).symm)]
    exact hJ
  · rcases hb2 with h | ⟨cs, U, fr, h1, h2, h3⟩
    · exact Or.inl h
    · exact Or.inr ⟨cs, U, fr, h1, h2⟩
  · rcases hb2 with h | ⟨cs, U, fr, h1, h2, h3⟩
    · exact Or.inl h
    · exact Or.inr ⟨cs, U, fr, h1, h3⟩
theorem JoinSt.below {w w' : World} {base J L : Nat} {ss : List (ByteArray × Nat)} {bs : List BEnt} (h : JoinSt base J w ss bs L) (hb : Below w.heap.size w w') : JoinSt base J w' ss bs L := by
  obtain ⟨hne, vs, vb, lb, hJ, hS, hB⟩ := h
  have ow : ∀ {T n v xs}, w.ownsRow base T 2 v n xs → w'.ownsRow base T 2 v n xs := fun {T n v xs} h => by
    refine ⟨h.1, ?_⟩
    rcases h.2 with h' | ⟨g, cap, cur, hv, hge, hgg, r⟩
    · exact Or.inl h'
    · exact Or.inr ⟨g, cap, cur, hv, hge, (hb.block _ (Array.getElem?_eq_some_iff.1 hgg).1).trans hgg, r⟩
  exact ⟨hne, vs, vb, lb, (hb.block J (Array.getElem?_eq_some_iff.1 hJ).1).trans hJ, ow hS, ow hB⟩
theorem owns_below {w w' : World} {base : Nat} {e : TypeId} {size n : Nat} {v : Value} {xs : List Value} (h : w.ownsRow base e size v n xs) (hb : Below w.heap.size w w') : w'.ownsRow base e size v n xs := by
  refine ⟨h.1, ?_⟩
  rcases h.2 with h' | ⟨g', cap', cur, h', h1, hg, h2⟩
  · exact Or.inl h'
  · exact Or.inr ⟨g', cap', cur, h', h1, (hb.block _ (Array.getElem?_eq_some_iff.1 hg).1).trans hg, h2⟩
theorem Nums.below {w w' : World} {b : Nat} {T : TypeId} {n : Nat} (h : Nums w b T n) (hb : Below w.heap.size w w') : Nums w' b T n := h.block (hb.block b h.lt)
theorem Nums.jkept {w w' : World} {b base J : Nat} {T : TypeId} {n : Nat} (h : Nums w b T n) (hg : JKept base J w w') (hb : b ≠ J) (h1 : T ≠ 197) (h2 : T ≠ 195) : Nums w' b T n := by
  obtain ⟨cs, hs, hx, h⟩ := h
  exact ⟨cs, hs, hx, hg.other _ _ _ _ h hb h1 h2⟩
structure St (w : World) (kb J S : Nat) (wr : World) (ss : List (ByteArray × Nat)) (bs : List BEnt) (L : Nat) (v7 : Value) (n7 : Nat) (q : Int) : Prop where
  hJ : J = w.heap.size + 1
  hS : S = w.heap.size + 1 + 1
  hk : kb < w.heap.size
  join : JoinSt S J wr ss bs L
  shift : Nums wr S 186 4
  own : ∃ xs, wr.ownsRow (S + 1) 186 4 v7 n7 xs
  calls : wr.heap[kb]? = some (.cells #[.int .i64 q] 3 (0, 0))
  frame : w.grownBy wr (some kb)
section
variable {w : World} {kb J S : Nat} {wr w' : World} {ss : List (ByteArray × Nat)} {bs : List BEnt} {L : Nat} {v7 : Value} {n7 : Nat} {q : Int}
theorem St.below (h : St w kb J S wr ss bs L v7 n7 q) (hb : Below wr.heap.size wr w') : St w kb J S w' ss bs L v7 n7 q := by
  obtain ⟨xs, ho⟩ := h.own
  exact ⟨h.hJ, h.hS, h.hk, h.join.below hb, h.shift.below hb, ⟨xs, owns_below ho hb⟩, (hb.block _ (Array.getElem?_eq_some_iff.1 h.calls).1).trans h.calls, grown_below h.frame hb⟩
theorem St.alloc (h : St w kb J S wr ss bs L v7 n7 q) (o : Obj) : St w kb J S (wr.alloc o) ss bs L v7 n7 q := h.below ((Below.refl _ _).alloc (Nat.le_refl _) _)
theorem St.drew (h : St w kb J S wr ss bs L v7 n7 q) : St w kb J S wr.drew ss bs L v7 n7 q := h.below (Below.refl _ _).drew
theorem St.lt (h : St w kb J S wr ss bs L v7 n7 q) : S < wr.heap.size := h.shift.lt
theorem St.added (h : St w kb J S wr ss bs L v7 n7 q) {ss' : List (ByteArray × Nat)} {bs' : List BEnt} {L' : Nat} (hj : JoinSt S J w' ss' bs' L') (hk : JKept S J wr w') : St w kb J S w' ss' bs' L' v7 n7 q := by
  obtain ⟨xs, ho⟩ := h.own
  have h1 := h.hJ
  have h2 := h.hS
  have h3 := h.hk
  refine ⟨h.hJ, h.hS, h.hk, hj, h.shift.jkept hk (by omega) (by decide) (by decide), ⟨xs, owns_jkept ho hk (by omega) (by decide) (by decide)⟩, hk.other _ _ _ _ h.calls (by omega) (by decide) (by decide), ?_⟩
  exact ⟨hk.os.trans h.frame.os, hk.tape.trans h.frame.tape, hk.output.trans h.frame.output, Nat.le_trans h.frame.size hk.size, fun k hlt hne => (hk.block k (Nat.lt_of_lt_of_le hlt h.frame.size) (by omega) (by omega)).trans (h.frame.block k hlt hne)⟩
theorem St.turnS (h : St w kb J S wr ss bs L v7 n7 q) (hg : wr.grownBy w' (some S)) (hn : Nums w' S 186 4) : St w kb J S w' ss bs L v7 n7 q := by
  obtain ⟨xs, ho⟩ := h.own
  have h1 := h.hJ
  have h2 := h.hS
  have h3 := h.hk
  obtain ⟨cs, _, _, hc⟩ := h.shift
  refine ⟨h.hJ, h.hS, h.hk, h.join.grown hg (by omega) (Or.inr ⟨cs, 186, _, hc, by decide, by decide⟩), hn, ⟨xs, owns_grown ho hg (Or.inl (by omega))⟩, ?_, ?_⟩
  · rw [hg.block kb (Array.getElem?_eq_some_iff.1 h.calls).1 (fun e => by have := Option.some.inj e; omega)]; exact h.calls
  · exact ⟨hg.os.trans h.frame.os, hg.tape.trans h.frame.tape, hg.output.trans h.frame.output, Nat.le_trans h.frame.size hg.size, fun k hlt hne => (hg.block k (Nat.lt_of_lt_of_le hlt h.frame.size) (fun e => by have := Option.some.inj e; omega)).trans (h.frame.block k hlt hne)⟩
theorem St.turnD (h : St w kb J S wr ss bs L v7 n7 q) {D n : Nat} (hD : S < D) (hd : Nums wr D 184 n) (hg : wr.grownBy w' (some D)) : St w kb J S w' ss bs L v7 n7 q := by
  obtain ⟨xs, ho⟩ := h.own
  have h1 := h.hJ
  have h2 := h.hS
  have h3 := h.hk
  obtain ⟨cs, _, _, hc⟩ := hd
  refine ⟨h.hJ, h.hS, h.hk, h.join.grown hg (by omega) (Or.inr ⟨cs, 184, _, hc, by decide, by decide⟩), h.shift.block (hg.block S h.lt (fun e => by have := Option.some.inj e; omega)), ⟨xs, owns_grown ho hg (Or.inr ⟨cs, 184, _, hc, by decide⟩)⟩, ?_, ?_⟩
  · rw [hg.block kb (Array.getElem?_eq_some_iff.1 h.calls).1 (fun e => by have := Option.some.inj e; omega)]; exact h.calls
  · exact ⟨hg.os.trans h.frame.os, hg.tape.trans h.frame.tape, hg.output.trans h.frame.output, Nat.le_trans h.frame.size hg.size, fun k hlt hne => (hg.block k (Nat.lt_of_lt_of_le hlt h.frame.size) (fun e => by have := Option.some.inj e; omega)).trans (h.frame.block k hlt hne)⟩
theorem St.called (h : St w kb J S wr ss bs L v7 n7 q) (hb : Below wr.heap.size (wr.setCell ⟨kb, 0, none⟩ (.int .i64 (q + 1))) w') : St w kb J S w' ss bs L v7 n7 (q + 1) := by
  obtain ⟨xs, ho⟩ := h.own
  have h1 := h.hJ
  have h2 := h.hS
  have h3 := h.hk
  have hb' : Below (wr.setCell ⟨kb, 0, none⟩ (.int .i64 (q + 1))).heap.size (wr.setCell ⟨kb, 0, none⟩ (.int .i64 (q + 1))) w' := hb.mono (by simp)
  have hg : wr.grownBy (wr.setCell ⟨kb, 0, none⟩ (.int .i64 (q + 1))) (some kb) := grown_set (grown_refl _ _) _ _
  have hst : St w kb J S (wr.setCell ⟨kb, 0, none⟩ (.int .i64 (q + 1))) ss bs L v7 n7 (q + 1) := by
    refine ⟨h.hJ, h.hS, h.hk, h.join.grown hg (by omega) (Or.inl (by omega)), h.shift.block (hg.block S h.lt (fun e => by have := Option.some.inj e; omega)), ⟨xs, owns_grown ho hg (Or.inl (by omega))⟩, heap_setCell_same _ _ 0 _ _ _ h.calls, ?_⟩
    exact grown_set h.frame _ _
  exact hst.below hb'
theorem St.push (h : St w kb J S wr ss bs L v7 n7 q) {v' : Value} {n' : Nat} {xs ys : List Value} (hx : wr.ownsRow (S + 1) 186 4 v7 n7 xs) (hg : wr.grownBy w' v7.ownBlock) (hown : w'.ownsRow (S + 1) 186 4 v' n' ys) : St w kb J S w' ss bs L v' n' q := by
  have h1 := h.hJ
  have h2 := h.hS
  have h3 := h.hk
  rcases hx.2 with ⟨rfl, _⟩ | ⟨g, cap, cur, rfl, hge, hgg, _⟩
  · have hg' : wr.grownBy w' (some kb) := ⟨hg.os, hg.tape, hg.output, hg.size, fun k hk _ => hg.block k hk (fun e => by cases e)⟩
    have hbl : Below wr.heap.size wr w' := ⟨hg.os, hg.tape, hg.output, hg.size, fun k hk => hg.block k hk (fun e => by cases e)⟩
    have := h.below hbl
    exact ⟨h.hJ, h.hS, h.hk, this.join, this.shift, ⟨ys, hown⟩, this.calls, this.frame⟩
  · have hg' : wr.grownBy w' (some g) := hg
    refine ⟨h.hJ, h.hS, h.hk, h.join.grown hg' (by omega) (Or.inr ⟨cur, 186, _, hgg, by decide, by decide⟩), h.shift.block (hg'.block S h.lt (fun e => by have := Option.some.inj e; omega)), ⟨ys, hown⟩, ?_, ?_⟩
    · rw [hg'.block kb (Array.getElem?_eq_some_iff.1 h.calls).1 (fun e => by have := Option.some.inj e; omega)]; exact h.calls
    · exact ⟨hg'.os.trans h.frame.os, hg'.tape.trans h.frame.tape, hg'.output.trans h.frame.output, Nat.le_trans h.frame.size hg'.size, fun k hlt hne => (hg'.block k (Nat.lt_of_lt_of_le hlt h.frame.size) (fun e => by have := Option.some.inj e; omega)).trans (h.frame.block k hlt hne)⟩
end
/-- A piece: its bytes, its chunk, its kind. -/
structure PD where
  a : Option Addr
  n : Nat
  c : Nat
  d : Nat → UInt8
  idx : Nat
  kd : Nat
def cellsP (l : List PD) : List Value := l.flatMap fun e => [.slice e.a e.n e.c, .int .u32 e.idx, .int .u8 e.kd]
theorem cellsP_length (l : List PD) : (cellsP l).length = l.length * 3 := by
  induction l with
  | nil => rfl
  | cons r rs ih => simp only [cellsP, List.flatMap_cons, List.length_append] at *; simp [ih]; omega
theorem cellsP_get (l : List PD) (k : Nat) (e : PD) (h : l[k]? = some e) : (cellsP l).getD (k * 3) undef = .slice e.a e.n e.c ∧ (cellsP l).getD (k * 3 + 1) undef = .int .u32 e.idx ∧ (cellsP l).getD (k * 3 + 2) undef = .int .u8 e.kd := by
  induction l generalizing k with
  | nil => simp at h
  | cons r rs ih =>
    cases k with
    | zero => simp at h; subst h; exact ⟨rfl, rfl, rfl⟩
    | succ k =>
      have := ih k (by simpa using h)
      rw [show (k + 1) * 3 = k * 3 + 1 + 1 + 1 by omega]
      simpa [cellsP] using this
/-- The bytes of a piece; the text behind it. -/
def PD.bytes (p : PD) : List UInt8 := (List.range p.n).map p.d
def PD.text (pub : ByteArray) (R : Nat → ByteArray) (p : PD) : List UInt8 := if p.kd = 2 then joinL pub.data.toList (R p.idx).data.toList else []
def outOf (pub : ByteArray) (R : Nat → ByteArray) (ps : List PD) : List UInt8 := ps.flatMap fun p => p.bytes ++ p.text pub R
def chunksOf (ps : List PD) : Nat := (ps.filter fun p => p.kd == 2).length
/-- The joiner's entries behind some pieces. -/
def ssOf (pub : ByteArray) (R : Nat → ByteArray) : Nat → List PD → List (ByteArray × Nat)
  | _, [] => []
  | off, p :: r => (if p.kd = 2 then [(joinB pub (R p.idx), off + p.n)] else []) ++ ssOf pub R (off + p.n + (p.text pub R).length) r
def bsOf (pub : ByteArray) (R : Nat → ByteArray) : Nat → List PD → List BEnt
  | _, [] => []
  | off, p :: r => ⟨p.a, p.n, p.c, off⟩ :: bsOf pub R (off + p.n + (p.text pub R).length) r
theorem outOf_snoc (pub : ByteArray) (R : Nat → ByteArray) (ps : List PD) (p : PD) : outOf pub R (ps ++ [p]) = outOf pub R ps ++ (p.bytes ++ p.text pub R) := by simp [outOf]
theorem bytes_len (p : PD) : p.bytes.length = p.n := by simp [PD.bytes]
theorem outOf_cons (pub : ByteArray) (R : Nat → ByteArray) (ps : List PD) (p : PD) : outOf pub R (p :: ps) = (p.bytes ++ p.text pub R) ++ outOf pub R ps := by simp [outOf]
theorem ssOf_snoc (pub : ByteArray) (R : Nat → ByteArray) (ps : List PD) (p : PD) (off : Nat) : ssOf pub R off (ps ++ [p]) = ssOf pub R off ps ++ (if p.kd = 2 then [(joinB pub (R p.idx), off + (outOf pub R ps).length + p.n)] else []) := by
  induction ps generalizing off with
  | nil => simp [ssOf, outOf]
  | cons x xs ih =>
    simp only [List.cons_append, ssOf, ih, outOf_cons, List.length_append, bytes_len, List.append_assoc]
    congr 5
    omega
theorem bsOf_snoc (pub : ByteArray) (R : Nat → ByteArray) (ps : List PD) (p : PD) (off : Nat) : bsOf pub R off (ps ++ [p]) = bsOf pub R off ps ++ [⟨p.a, p.n, p.c, off + (outOf pub R ps).length⟩] := by
  induction ps generalizing off with
  | nil => simp [bsOf, outOf]
  | cons x xs ih =>
    simp only [List.cons_append, bsOf, ih, outOf_cons, List.length_append, bytes_len]
    congr 4
    omega
theorem chunksOf_snoc (ps : List PD) (p : PD) : chunksOf (ps ++ [p]) = chunksOf ps + (if p.kd = 2 then 1 else 0) := by
  by_cases h : p.kd = 2 <;> simp [chunksOf, List.filter_append, h]
theorem ssOf_len (pub : ByteArray) (R : Nat → ByteArray) (ps : List PD) (off : Nat) : (ssOf pub R off ps).length ≤ ps.length := by
  induction ps generalizing off with
  | nil => simp [ssOf]
  | cons x xs ih =>
    have := ih (off + x.n + (x.text pub R).length)
    simp only [ssOf, List.length_append, List.length_cons]
    split <;> simp <;> omega
theorem bsOf_len (pub : ByteArray) (R : Nat → ByteArray) (ps : List PD) (off : Nat) : (bsOf pub R off ps).length = ps.length := by
  induction ps generalizing off with
  | nil => rfl
  | cons x xs ih => simp [bsOf, ih]
end Go.Proofs.YtdoakedpkjlipaaFmt
