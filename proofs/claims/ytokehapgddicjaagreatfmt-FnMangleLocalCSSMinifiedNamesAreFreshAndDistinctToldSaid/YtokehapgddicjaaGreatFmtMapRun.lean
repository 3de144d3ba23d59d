/- Ranging over a map that the loop does not write: the steps of the walk, and what is left. -/
import Derived.Test.YtokehapgddicjaaGreatFmtMapIs
import Derived.Maps.RangeRun
namespace Go.Proofs.YtokehapgddicjaaGreatFmt
open Go.RowKit Go.Lib
open Go.ChangeMaps (setBlock)
open Go.MapKept (Stamped)
set_option linter.unusedVariables false
set_option linter.unusedSimpArgs false
theorem setBlock_grown (w : World) (r : Nat) (o : Obj) : w.grownBy (setBlock w r o) (some r) := ⟨rfl, rfl, rfl, by simp [setBlock], fun i hi hne => by
    have : r ≠ i := fun e => hne (by rw [e])
    simp [setBlock, this]⟩
section
variable {P : Program} (w : World) {ops : Array Oper} {rest : List Oper} {o : Oper} {a : Act} {Q : Exit → Act → World → Prop}
theorem wpList_len_map (hg : o.guard = none) (m : Operand) (t : TypeId) (hop : o.op = Op.call { callee := Callee.builtin Builtin.len, args := #[m], argTypes := #[t] })
    (k e : TypeId) (ht : P.underlying t = some (.map k e)) (b : Nat) (es : Array MapEntry) (clock : Nat) (hm : a.eval m = .map (some b)) (hb : w.heap[b]? = some (.map es clock))
    (hK : wpList P ops Q rest (a.put o.dst (.int .i64 es.size)) w) :
    wpList P ops Q (o :: rest) a w := by
  refine wpList_plain hg fun K' hK' => ?_
  unfold Oper.wp
  simp [execOp, hop, resolve, invoke, builtin, hm, Builtin.len_, run_underlying ht, MapKept.run_getObj_map hb, goInt, Result.andThen]
  exact hK' _ _ hK
theorem wpList_range_map (hg : o.guard = none) (m : Operand) (t : TypeId) (hop : o.op = Op.range t m) (k e : TypeId) (ht : P.underlying t = some (.map k e))
    (b : Nat) (es : Array MapEntry) (clock : Nat) (hm : a.eval m = .map (some b)) (hb : w.heap[b]? = some (.map es clock))
    (hK : wpList P ops Q rest (a.put o.dst (.pointer (some ⟨w.heap.size, 0, none⟩))) (w.alloc (.mapIter (some b) clock #[] clock))) :
    wpList P ops Q (o :: rest) a w := by
  refine wpList_plain hg fun K' hK' => ?_
  unfold Oper.wp
  simp [execOp, hop, hm, run_range_map w t k e b es clock ht hb, Result.andThen]
  exact hK' _ _ hK
theorem wpList_next_map (hg : o.guard = none) (it : Operand) (hop : o.op = Op.next it false) (r b since c0 : Nat) (seen : Array Nat) (es : Array MapEntry) (clock : Nat)
    (hit : a.eval it = .pointer (some ⟨r, 0, none⟩)) (hr : w.heap[r]? = some (.mapIter (some b) since seen c0)) (hb : w.heap[b]? = some (.map es clock)) (hold : ∀ x ∈ es.toList, x.born < since) (hsc : since ≤ c0)
    (hDone : (leftOf es seen).size = 0 → wpList P ops Q rest (a.put o.dst (.tuple #[.bool false])) w)
    (hMore : ∀ e ∈ (leftOf es seen).toList, ∀ w' : World, w'.heap[r]? = some (.mapIter (some b) since (seen.push e.born) clock) → w.grownBy w' (some r) → w'.heap.size = w.heap.size → wpList P ops Q rest (a.put o.dst (.tuple #[.bool true, e.key, e.val])) w') :
    wpList P ops Q (o :: rest) a w := by
  have hlt : r < w.heap.size := (Array.getElem?_eq_some_iff.1 hr).1
  refine wpList_plain hg fun K' hK' => ?_
  unfold Oper.wp
  rcases run_next_at (P := P) w o.type r b since c0 seen es clock hr hb hold hsc with ⟨h0, hrun⟩ | ⟨e, he, w1, h1, hrun⟩
  · simp [execOp, hop, hit, hrun, Result.andThen]
    exact hK' _ _ (hDone h0)
  · simp [execOp, hop, hit, hrun, Result.andThen]
    refine hK' _ _ (hMore e he _ ?_ ?_ ?_)
    · have hl : ∀ x : World, r < x.heap.size → (setBlock x r (.mapIter (some b) since (seen.push e.born) clock)).heap[r]? = some (.mapIter (some b) since (seen.push e.born) clock) := fun x hx => by simp [setBlock, hx]
      rcases h1 with h1 | h1 <;> rw [h1]
      · exact hl w hlt
      · exact hl w.drew hlt
    · rcases h1 with h1 | h1 <;> rw [h1]
      · exact setBlock_grown w r _
      · have hg := setBlock_grown w.drew r (.mapIter (some b) since (seen.push e.born) clock)
        exact ⟨hg.os, hg.tape, hg.output, hg.size, hg.block⟩
    · have hl : ∀ x : World, (setBlock x r (.mapIter (some b) since (seen.push e.born) clock)).heap.size = x.heap.size := fun x => by simp [setBlock]
      rcases h1 with h1 | h1 <;> rw [h1]
      · exact hl w
      · exact hl w.drew
theorem wpList_entry_map (hg : o.guard = none) (it : Operand) (hop : o.op = Op.entry it) (r b since : Nat) (seen : Array Nat) (es : Array MapEntry) (clock : Nat) (e : MapEntry)
    (hit : a.eval it = .pointer (some ⟨r, 0, none⟩)) (hr : w.heap[r]? = some (.mapIter (some b) since (seen.push e.born) clock)) (hb : w.heap[b]? = some (.map es clock)) (he : e ∈ es.toList) (hn : (es.toList.map (·.born)).Nodup)
    (hK : wpList P ops Q rest (a.put o.dst (.tuple #[e.key, e.val])) w) :
    wpList P ops Q (o :: rest) a w := by
  refine wpList_plain hg fun K' hK' => ?_
  unfold Oper.wp
  simp [execOp, hop, hit, run_entry_at (P := P) w r b since seen es clock e hr hb he hn, Result.andThen]
  exact hK' _ _ hK
end
/-- One entry handed out: it and what is left then are what was left. -/
theorem left_cons (es : Array MapEntry) (seen : Array Nat) (e : MapEntry) (hn : (es.toList.map (·.born)).Nodup) (he : e ∈ (leftOf es seen).toList) :
    (leftOf es seen).toList.Perm (e :: (leftOf es (seen.push e.born)).toList) := by
  have h1 := mem_left he
  have key : ∀ s : Array Nat, (leftOf es s).toList = es.toList.filter (fun x => !s.contains x.born) := fun s => by
    unfold leftOf
    rw [Array.toList_filter]
  have hnd : es.toList.Nodup := List.Pairwise.of_map (fun x : MapEntry => x.born) (fun a b h e => h (by rw [e])) hn
  have heq : ∀ x ∈ es.toList, x.born = e.born → x = e := fun x hx hb => by
    have h2 := find_born x es.toList hn hx
    have h3 := find_born e es.toList hn h1.1
    rw [hb] at h2
    exact Option.some.inj (h2.symm.trans h3)
  rw [key, key]
  refine (List.perm_ext_iff_of_nodup (hnd.filter _) (List.nodup_cons.2 ⟨fun h => ?_, hnd.filter _⟩)).2 fun x => ?_
  · have h2 := (List.mem_filter.1 h).2
    rw [contains_push, beq_self_eq_true, Bool.or_true] at h2
    exact absurd h2 (by decide)
  · rw [List.mem_cons, List.mem_filter, List.mem_filter]
    constructor
    · rintro ⟨hx, hs⟩
      by_cases hb : x.born = e.born
      · exact Or.inl (heq x hx hb)
      · refine Or.inr ⟨hx, ?_⟩
        rw [contains_push]
        have h4 : (x.born == e.born) = false := by simpa using hb
        rw [h4, Bool.or_false]
        exact hs
    · rintro (rfl | ⟨hx, hs⟩)
      · exact ⟨h1.1, by rw [h1.2]; rfl⟩
      · refine ⟨hx, ?_⟩
        rw [contains_push] at hs
        cases hc : seen.contains x.born with
        | false => rfl
        | true => rw [hc, Bool.true_or] at hs; exact absurd hs (by decide)
theorem left_none (es : Array MapEntry) : leftOf es #[] = es := by
  unfold leftOf
  rw [Array.filter_eq_self]
  intro x hx
  simp
/-- A map that holds just the keys of a list without doubles: its entries' keys are that list, in some order. -/
theorem keys_perm {es : Array MapEntry} {clock : Nat} {f : Value → Option Value} (hs : Stamped es clock) (hf : ∀ x v, f x = some v ↔ ∃ e ∈ es.toList, e.key = x ∧ e.val = v) (l : List Value) (hl : l.Nodup) (hfl : ∀ x, (f x).isSome = true ↔ x ∈ l) :
    (es.toList.map (·.key)).Perm l := by
  refine (List.perm_ext_iff_of_nodup hs.2.2 hl).2 fun x => ?_
  rw [← hfl, List.mem_map, Option.isSome_iff_exists]
  constructor
  · rintro ⟨e, he, rfl⟩
    exact ⟨e.val, (hf _ _).2 ⟨e, he, rfl, rfl⟩⟩
  · rintro ⟨v, hv⟩
    obtain ⟨e, he, hk, _⟩ := (hf x v).1 hv
    exact ⟨e, he, hk⟩
end Go.Proofs.YtokehapgddicjaaGreatFmt
