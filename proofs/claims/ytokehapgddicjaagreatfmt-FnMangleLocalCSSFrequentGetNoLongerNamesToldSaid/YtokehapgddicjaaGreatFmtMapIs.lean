/- Maps that the call made: what block b holds, as a partial function of the key. -/
import Derived.Test.YtokehapgddicjaaGreatFmtBase
import Derived.Maps.OwnSet
import Derived.Maps.OwnOps
import Derived.Maps.RangeWalk
namespace Go.Proofs.YtokehapgddicjaaGreatFmt
open Go.RowKit Go.Lib
open Go.Maps (Keyed)
open Go.ChangeMaps (setBlock)
open Go.MapKept (Stamped stamped_empty stamped_push stamped_modify)
set_option linter.unusedVariables false
set_option linter.unusedSimpArgs false
/-- Block b of w is a map with keys of type k: at the key x lies f x. -/
def MapIs (P : Program) (k : TypeId) (w : World) (b : Nat) (f : Value → Option Value) : Prop :=
  ∃ es clock, w.heap[b]? = some (.map es clock) ∧ Stamped es clock ∧ (∀ e ∈ es.toList, ∃ l, keyOf P k e.key = some l) ∧ ∀ x v, f x = some v ↔ ∃ e ∈ es.toList, e.key = x ∧ e.val = v
open Classical in
noncomputable def upd (f : Value → Option Value) (x : Value) (v : Value) : Value → Option Value := fun y => if y = x then some v else f y
theorem upd_same (f : Value → Option Value) (x v : Value) : upd f x v x = some v := if_pos rfl
theorem upd_other (f : Value → Option Value) {x y : Value} (v : Value) (h : y ≠ x) : upd f x v y = f y := if_neg h
section
variable {P : Program} {k t e : TypeId} {w : World} {b : Nat} {f : Value → Option Value}
theorem MapIs.lt (h : MapIs P k w b f) : b < w.heap.size := by
  obtain ⟨es, clock, hb, _⟩ := h
  exact (Array.getElem?_eq_some_iff.1 hb).1
theorem MapIs.block {w' : World} (h : MapIs P k w b f) (hb : w'.heap[b]? = w.heap[b]?) : MapIs P k w' b f := by
  obtain ⟨es, clock, h1, h2⟩ := h
  exact ⟨es, clock, hb.trans h1, h2⟩
theorem MapIs.below {w' : World} (h : MapIs P k w b f) (hb : Below w.heap.size w w') : MapIs P k w' b f := h.block (hb.block _ h.lt)
theorem MapIs.grown {w' : World} {r : Option Nat} (h : MapIs P k w b f) (hg : w.grownBy w' r) (hne : some b ≠ r) : MapIs P k w' b f := h.block (hg.block _ h.lt hne)
theorem MapIs.made (w : World) : MapIs P k (w.alloc (.map #[] 0)) w.heap.size (fun _ => none) :=
  ⟨#[], 0, (MapKept.heap_alloc w _).1, stamped_empty 0, fun e he => by simp at he, fun x v => by simp⟩
theorem MapIs.look (h : MapIs P k w b f) (K : Keyed P k) (ht : P.underlying t = some (.map k e)) {z : Value} (hz : (zeroValue e).run P w = .ok z w) {key : Value} {kl : Lit} (hkey : keyOf P k key = some kl) (c : Bool) :
    (Instr.lookup t (.map (some b)) key c).run P w = .ok (if c then .tuple #[(f key).getD z, .bool (f key).isSome] else (f key).getD z) w := by
  obtain ⟨es, clock, hb, hs, hk, hf⟩ := h
  rcases K.find w hkey es.toList hk with ⟨h1, h2⟩ | ⟨j, e0, h1, h2, h3⟩
  · have hn : f key = none := by
      cases hv : f key with
      | none => rfl
      | some v =>
        obtain ⟨e1, he1, hk1, _⟩ := (hf key v).1 hv
        exact absurd hk1 (h2 e1 he1)
    rw [hn]
    cases c <;> simp [Instr.lookup, run_underlying ht, MapKept.run_getObj_map hb, K.check w _ hkey, h1, hz, Result.andThen]
  · have hn : f key = some e0.val := (hf key e0.val).2 ⟨e0, List.mem_of_getElem? h2, h3, rfl⟩
    rw [hn]
    cases c <;> simp [Instr.lookup, run_underlying ht, MapKept.run_getObj_map hb, K.check w _ hkey, h1, hz, Result.andThen]
theorem MapIs.put (h : MapIs P k w b f) (K : Keyed P k) (ht : P.underlying t = some (.map k e)) {key : Value} {kl : Lit} (hkey : keyOf P k key = some kl) (val : Value) :
    ∃ w', (Instr.mapUpdate t (.map (some b)) key val).run P w = .ok () w' ∧ MapIs P k w' b (upd f key val) ∧ w.grownBy w' (some b) := by
  obtain ⟨es, clock, hb, hs, hk, hf⟩ := h
  have hlt : b < w.heap.size := (Array.getElem?_eq_some_iff.1 hb).1
  have hgr : ∀ o : Obj, w.grownBy (setBlock w b o) (some b) := fun o => ⟨rfl, rfl, rfl, by simp [setBlock], fun i hi hne => by
    have : b ≠ i := fun e => hne (by rw [e])
    simp [setBlock, this]⟩
  rcases K.find w hkey es.toList hk with ⟨h1, h2⟩ | ⟨j, e0, h1, h2, h3⟩
  · refine ⟨setBlock w b (.map (es.push ⟨key, val, clock⟩) (clock + 1)), ?_, ⟨es.push ⟨key, val, clock⟩, clock + 1, by simp [setBlock, hlt], stamped_push hs h2, ?_, ?_⟩, hgr _⟩
    · simp [Instr.mapUpdate, run_underlying ht, MapKept.run_getObj_map hb, K.check w false hkey, h1, MapKept.run_setObj_map _ hb, Result.andThen, setBlock]
    · intro x hx
      simp only [Array.toList_push, List.mem_append, List.mem_singleton] at hx
      rcases hx with hx | rfl
      · exact hk x hx
      · exact ⟨kl, hkey⟩
    · intro x v
      simp only [Array.toList_push, List.mem_append, List.mem_singleton]
      by_cases hx : x = key
      · subst hx
        rw [upd_same]
        constructor
        · intro hv
          exact ⟨_, Or.inr rfl, rfl, Option.some.inj hv⟩
        · rintro ⟨e1, he | rfl, hk1, hv⟩
          · exact absurd hk1 (h2 e1 he)
          · exact congrArg some hv
      · rw [upd_other f val hx, hf x v]
        constructor
        · rintro ⟨e1, he, hk1, hv⟩
          exact ⟨e1, Or.inl he, hk1, hv⟩
        · rintro ⟨e1, he | rfl, hk1, hv⟩
          · exact ⟨e1, he, hk1, hv⟩
          · exact absurd hk1.symm hx
  · have hj : es[j]? = some e0 := by simpa using h2
    have hkeyf : ∀ e', es[j]? = some e' → ({ e' with key := key, val := val } : MapEntry).key = e'.key := fun e' he' => by rw [hj] at he'; cases he'; exact h3.symm
    have hlist : (es.modify j (fun e' => { e' with key := key, val := val })).toList = es.toList.set j { e0 with key := key, val := val } := by rw [Array.toList_modify, ChangeMaps.modify_eq_set _ _ _ _ h2]
    have hjl : j < es.toList.length := (List.getElem?_eq_some_iff.1 h2).1
    have hnd : (es.toList.map (·.key)).Nodup := hs.2.2
    have other : ∀ i (hi : i < es.toList.length), es.toList[i].key = key → i = j := fun i hi he => by
      have h5 : es.toList[j] = e0 := by rw [List.getElem?_eq_getElem hjl] at h2; exact Option.some.inj h2
      have h4 : (es.toList.map (·.key))[i]'(by simpa using hi) = (es.toList.map (·.key))[j]'(by simpa using hjl) := by
        rw [List.getElem_map, List.getElem_map, he, h5, h3]
      exact (List.getElem_inj hnd).1 h4
    refine ⟨setBlock w b (.map (es.modify j (fun e' => { e' with key := key, val := val })) clock), ?_, ⟨es.modify j (fun e' => { e' with key := key, val := val }), clock, by simp [setBlock, hlt], stamped_modify hs _ _ (fun _ _ => rfl) (fun e' _ he' => hkeyf e' he'), ?_, ?_⟩, hgr _⟩
    · simp [Instr.mapUpdate, run_underlying ht, MapKept.run_getObj_map hb, K.check w false hkey, h1, hj, h3, K.stays w hkey, MapKept.run_setObj_map _ hb, Result.andThen, setBlock]
    · intro x hx
      rw [hlist] at hx
      rcases List.mem_or_eq_of_mem_set hx with hx | rfl
      · exact hk x hx
      · exact ⟨kl, hkey⟩
    · intro x v
      rw [hlist]
      by_cases hx : x = key
      · subst hx
        rw [upd_same]
        constructor
        · intro hv
          exact ⟨_, List.mem_iff_getElem.2 ⟨j, by simpa using hjl, List.getElem_set_self _⟩, rfl, Option.some.inj hv⟩
        · rintro ⟨e1, he, hk1, hv⟩
          obtain ⟨i, hi, hie⟩ := List.getElem_of_mem he
          rw [List.getElem_set] at hie
          split at hie
          · subst hie
            exact congrArg some hv
          · rename_i hne
            have hi' : i < es.toList.length := by simpa using hi
            exact absurd (other i hi' (by rw [hie]; exact hk1)).symm hne
      · rw [upd_other f val hx, hf x v]
        constructor
        · rintro ⟨e1, he, hk1, hv⟩
          obtain ⟨i, hi, hie⟩ := List.getElem_of_mem he
          have hne : j ≠ i := fun e => hx (by subst e; rw [← hk1, ← hie]; rw [List.getElem?_eq_getElem hi] at h2; rw [Option.some.inj h2]; exact h3)
          exact ⟨e1, List.mem_iff_getElem.2 ⟨i, by simpa using hi, by rw [List.getElem_set_ne hne]; exact hie⟩, hk1, hv⟩
        · rintro ⟨e1, he, hk1, hv⟩
          rcases List.mem_or_eq_of_mem_set he with he | rfl
          · exact ⟨e1, he, hk1, hv⟩
          · exact absurd hk1.symm hx
end
section
variable {P : Program} (w : World) {ops : Array Oper} {rest : List Oper} {o : Oper} {a : Act} {Q : Exit → Act → World → Prop}
/-- 'm[x]' (and 'v, ok := m[x]'): '(at_lookup; refine wpList_look_map _ rfl _ _ T _ rfl K E law A.underlyingT (zeroE _) B f rfl hmap _ _ rfl hkey ?_)'. -/
theorem wpList_look_map (hg : o.guard = none) (m x : Operand) (t : TypeId) (c : Bool) (hop : o.op = Op.lookup t m x c)
    (k e : TypeId) (K : Keyed P k) (ht : P.underlying t = some (.map k e)) {z : Value} (hz : (zeroValue e).run P w = .ok z w) (b : Nat) (f : Value → Option Value)
    (hm : a.eval m = .map (some b)) (hmap : MapIs P k w b f) (key : Value) (kl : Lit) (hx : a.eval x = key) (hkey : keyOf P k key = some kl)
    (hK : wpList P ops Q rest (a.put o.dst (if c then .tuple #[(f key).getD z, .bool (f key).isSome] else (f key).getD z)) w) :
    wpList P ops Q (o :: rest) a w := by
  refine wpList_plain hg fun K' hK' => ?_
  have hrun := hmap.look K ht hz hkey c
  unfold Oper.wp
  cases c
  · simp at hrun hK
    simp [execOp, hop, hm, hx, hrun, Result.andThen]
    exact hK' _ _ hK
  · simp at hrun hK
    simp [execOp, hop, hm, hx, hrun, Result.andThen]
    exact hK' _ _ hK
theorem wpList_put_map (hg : o.guard = none) (m x v : Operand) (t : TypeId) (hop : o.op = Op.mapUpdate t m x v)
    (k e : TypeId) (K : Keyed P k) (ht : P.underlying t = some (.map k e)) (b : Nat) (f : Value → Option Value)
    (hm : a.eval m = .map (some b)) (hmap : MapIs P k w b f) (key val : Value) (kl : Lit) (hx : a.eval x = key) (hv : a.eval v = val) (hkey : keyOf P k key = some kl)
    (hK : ∀ w', MapIs P k w' b (upd f key val) → w.grownBy w' (some b) → wpList P ops Q rest (a.put o.dst undef) w') :
    wpList P ops Q (o :: rest) a w := by
  refine wpList_plain hg fun K' hK' => ?_
  obtain ⟨w', hrun, r1, r2⟩ := hmap.put K ht hkey val
  unfold Oper.wp
  simp [execOp, hop, hm, hx, hv, hrun, Result.andThen]
  exact hK' _ _ (hK w' r1 r2)
end
end Go.Proofs.YtokehapgddicjaaGreatFmt
