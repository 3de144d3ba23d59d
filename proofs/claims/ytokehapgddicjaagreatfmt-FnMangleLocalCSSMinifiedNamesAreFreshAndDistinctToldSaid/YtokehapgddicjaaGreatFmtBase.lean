/- Words of the walks that name no program: rows of cells in memory, rows being filled, readings opened. -/
import Derived.WalkKit
import Derived.WalkSpells
import Derived.WalkLawsBesides
import Derived.Lib.Hide
import Derived.Laws.CopyOwn
import Derived.ProofKit
import Derived.SliceStrings
import Derived.Deep.Grids
import Derived.Deep.MidRow
import Derived.Lib.LaidU8
import Derived.LaidLaws
import Derived.MakeChecks
namespace Go.Proofs.YtokehapgddicjaaGreatFmt
open Go.RowKit Go.ChangeShapes Go.WideShapes

/-- n cells at a: cell i holds f i. (n = 0: whatever the address.) -/
def RowAt (w : World) (a : Option Addr) (n : Nat) (f : Nat → Value) : Prop := 0 < n → ∃ b o, a = some ⟨b, o, none⟩ ∧ ∀ i, i < n → w.cell? ⟨b, o + i, none⟩ = some (f i)
theorem RowAt.zero (w : World) (a : Option Addr) (f : Nat → Value) : RowAt w a 0 f := fun h => absurd h (Nat.lt_irrefl 0)
theorem RowAt.below {w w' : World} {a : Option Addr} {n : Nat} {f : Nat → Value} (h : RowAt w a n f) (hb : Below w.heap.size w w') : RowAt w' a n f := fun h0 => by
  obtain ⟨b, o, h1, h2⟩ := h h0
  exact ⟨b, o, h1, fun i hi => (hb.cell (block_lt_of_cell (h2 i hi))).trans (h2 i hi)⟩
theorem RowAt.blk {w : World} {a : Option Addr} {n : Nat} {f : Nat → Value} (h : RowAt w a n f) (h0 : 0 < n) : ∃ b o, a = some ⟨b, o, none⟩ ∧ b < w.heap.size ∧ ∀ i, i < n → w.cell? ⟨b, o + i, none⟩ = some (f i) := by
  obtain ⟨b, o, h1, h2⟩ := h h0
  exact ⟨b, o, h1, block_lt_of_cell (h2 0 h0), h2⟩
abbrev strAt (S : Nat → ByteArray) : Nat → Value := fun i => .string (S i)
abbrev intAt (k : IntKind) (Z : Nat → Int) : Nat → Value := fun i => .int k (Z i)
abbrev boolAt (B : Nat → Bool) : Nat → Value := fun i => .bool (B i)

/-- The call gave back a bool, the world as it was; where the bool is true P holds. -/
def BoolIf (P : Prop) (w : World) (e : Ending) (w' : World) : Prop := ∃ b : Bool, e = .returned (.bool b) ∧ (b = true → P) ∧ w = w'
def LawOk (w : World) (e : Ending) (w' : World) : Prop := e = .returned (.bool true) ∧ Below w.heap.size w w'

def AllLeTo (m : Nat) (f : Nat → Nat) (k : Nat) : Prop := ∀ i, i < k → f i ≤ m
theorem AllLeTo.zero (m : Nat) (f : Nat → Nat) : AllLeTo m f 0 := fun i hi => absurd hi (Nat.not_lt_zero i)
theorem AllLeTo.succ {m k : Nat} {f : Nat → Nat} (h : AllLeTo m f k) (h2 : f k ≤ m) : AllLeTo m f (k + 1) := by
  intro i hi
  by_cases e : i = k
  · subst e; exact h2
  · exact h i (by omega)
abbrev szAt (S : Nat → ByteArray) : Nat → Nat := fun i => (S i).size

/-- A row of n cells of which the first k are xs's, the rest z. -/
def mixRow (xs : List Value) (z : Value) (n k : Nat) : List Value := xs.take k ++ List.replicate (n - k) z
theorem mixRow_zero (xs : List Value) (z : Value) (n : Nat) : mixRow xs z n 0 = List.replicate n z := by simp [mixRow]
theorem mixRow_full (xs : List Value) (z : Value) (n : Nat) (h : xs.length = n) : mixRow xs z n n = xs := by simp [mixRow, List.take_of_length_le (Nat.le_of_eq h)]
theorem mixRow_at (xs : List Value) (z : Value) (n k : Nat) (hk : k < n) (h : xs.length = n) : (mixRow xs z n k)[k]? = some z := by
  have e1 : min k xs.length = k := by omega
  simp only [mixRow, List.getElem?_append, List.length_take, List.getElem?_replicate]
  rw [e1, if_neg (by omega), if_pos (by omega)]
theorem mixRow_set (xs : List Value) (z v : Value) (n k : Nat) (hk : k < n) (h : xs.length = n) (hv : xs[k]? = some v) : (mixRow xs z n k).set k v = mixRow xs z n (k + 1) := by
  apply List.ext_getElem?
  intro i
  have hkl : k < xs.length := by omega
  simp only [mixRow, List.getElem?_set, List.getElem?_append, List.length_append, List.length_take, List.length_replicate, List.getElem?_take, List.getElem?_replicate]
  have e1 : min k xs.length = k := by omega
  have e2 : min (k + 1) xs.length = k + 1 := by omega
  rw [e1, e2]
  by_cases h1 : k = i
  · subst h1
    rw [if_pos rfl, if_pos (by omega), if_pos (by omega), if_pos (by omega), hv]
  · rw [if_neg h1]
    by_cases h2 : i < k
    · rw [if_pos h2, if_pos h2, if_pos (by omega), if_pos (by omega)]
    · rw [if_neg h2, if_neg (show ¬ i < k + 1 by omega)]
      by_cases h3 : i - k < n - k
      · rw [if_pos h3, if_pos (by omega)]
      · rw [if_neg h3, if_neg (by omega)]
theorem madeCells_list (z : Value) (n : Nat) (hz : z.cells = #[z]) : (madeCells z.cells (n * 1)).toList = List.replicate n z := by
  rw [hz]
  apply List.ext_getElem?
  intro i
  simp only [madeCells, Nat.mul_one]
  by_cases h : i < n
  · simp [h, Nat.mod_one]
  · simp [h]
theorem madeCells_list1 (z : Value) (n : Nat) (hz : z.cells = #[z]) : (madeCells #[z] n).toList = List.replicate n z := by
  have := madeCells_list z n hz
  rwa [Nat.mul_one, hz] at this
theorem range_map_at (f : Nat → Value) (n k : Nat) (hk : k < n) : ((List.range n).map f)[k]? = some (f k) := by
  simp [hk]

/-- A fresh slice that holds what f says: what a clone gives. -/
def Cloned (f : Nat → Value) (n : Nat) (w : World) (e : Ending) (w' : World) : Prop :=
  ∃ a c, e = .returned (.slice a n c) ∧ c ≤ maxLen ∧ RowAt w' a n f ∧ Below w.heap.size w w'

/-! Readings opened. -/
section
variable {H : Type} {enc : TypeId × Value → H} {P : Program} {W : World}
theorem spot_of_cell {w : World} {a : Addr} {v : Value} (h : w.cell? a = some v) : a = ⟨a.block, a.off, none⟩ := by
  obtain ⟨b, o, s⟩ := a
  have hs : s = none := by simpa using World.cell?_spot h
  subst hs; rfl
theorem row_of_cells {w : World} {a : Addr} {n m : Nat} {f : Nat → Value} (hnm : n ≤ m) (h : ∀ i, i < m → w.cell? (a.add i) = some (f i)) : RowAt w (some a) n f := fun h0 => by
  have h1 := h 0 (by omega)
  obtain ⟨b, o, s⟩ := a
  have hs : s = none := by simpa [Addr.add] using World.cell?_spot h1
  subst hs
  exact ⟨b, o, rfl, fun i hi => by have := h i (by omega); rwa [Addr.add_mid] at this⟩
theorem strs_of_open {T E : TypeId} {v : Option Addr} {n c : Nat} {d : DataW H} {ps : List MemPlace} (ht : P.underlying T = some (.slice E)) (he : P.underlying E = some .string) (hc : P.cellsOf E = 1)
    (h : DataW.Trod enc P W 0 (fun _ => true) true T (.slice v n c) d ps) : n ≤ maxLen ∧ ∃ S : Nat → ByteArray, RowAt W v n (strAt S) ∧ ∀ i, i < n → (S i).size ≤ maxLen := by
  obtain ⟨fuel, hf⟩ := h
  rcases open_strings ht he hc hf with ⟨hcs, _⟩ | ⟨a, l, cp, ss, hcs, _, hl, hm, hz, _, hcell, hw⟩
  · simp [Value.cells] at hcs
    obtain ⟨rfl, rfl, rfl⟩ := hcs
    exact ⟨Nat.zero_le _, fun _ => ByteArray.empty, RowAt.zero _ _ _, fun i hi => absurd hi (Nat.not_lt_zero i)⟩
  · simp [Value.cells] at hcs
    obtain ⟨rfl, rfl, rfl⟩ := hcs
    simp only [if_true] at hz
    refine ⟨Nat.le_trans hl hm, fun i => ss.getD i ByteArray.empty, row_of_cells (m := ss.length) (by omega) hcell, fun i hi => hw _ ?_⟩
    simp only []
    rw [List.getD_eq_getElem?_getD, List.getElem?_eq_getElem (by omega)]
    exact List.getElem_mem _
theorem ints_of_open {T E : TypeId} {k : IntKind} {v : Option Addr} {n c : Nat} {d : DataW H} {ps : List MemPlace} (ht : P.underlying T = some (.slice E)) (he : P.underlying E = some (.int k)) (hc : P.cellsOf E = 1)
    (h : DataW.Trod enc P W 0 (fun _ => true) true T (.slice v n c) d ps) : n ≤ maxLen ∧ ∃ Z : Nat → Int, RowAt W v n (intAt k Z) ∧ ∀ i, i < n → (Lit.int k (Z i)).wf = true := by
  obtain ⟨fuel, hf⟩ := h
  rcases open_ints ht he hc hf with ⟨hcs, _⟩ | ⟨a, l, cp, zs, hcs, _, hl, hm, hz, _, hcell, hw⟩
  · simp [Value.cells] at hcs
    obtain ⟨rfl, rfl, rfl⟩ := hcs
    exact ⟨Nat.zero_le _, fun _ => 0, RowAt.zero _ _ _, fun i hi => absurd hi (Nat.not_lt_zero i)⟩
  · simp [Value.cells] at hcs
    obtain ⟨rfl, rfl, rfl⟩ := hcs
    simp only [if_true] at hz
    refine ⟨Nat.le_trans hl hm, fun i => zs.getD i 0, row_of_cells (m := zs.length) (by omega) hcell, fun i hi => hw _ ?_⟩
    simp only []
    rw [List.getD_eq_getElem?_getD, List.getElem?_eq_getElem (by omega)]
    exact List.getElem_mem _
theorem bools_of_open {T E : TypeId} {v : Option Addr} {n c : Nat} {d : DataW H} {ps : List MemPlace} (ht : P.underlying T = some (.slice E)) (he : P.underlying E = some .bool) (hc : P.cellsOf E = 1)
    (h : DataW.Trod enc P W 0 (fun _ => true) true T (.slice v n c) d ps) : n ≤ maxLen ∧ ∃ B : Nat → Bool, RowAt W v n (boolAt B) := by
  obtain ⟨fuel, hf⟩ := h
  rcases Deep.open_bools ht he hc hf with ⟨hcs, _⟩ | ⟨a, l, cp, B, hcs, _, hl, hm, _, hcell⟩
  · simp [Value.cells] at hcs
    obtain ⟨rfl, rfl, rfl⟩ := hcs
    exact ⟨Nat.zero_le _, fun _ => false, RowAt.zero _ _ _⟩
  · simp [Value.cells] at hcs
    obtain ⟨rfl, rfl, rfl⟩ := hcs
    exact ⟨Nat.le_trans hl hm, B, row_of_cells hl hcell⟩
/-- A listed variable of an interface type holds an interface value. -/
theorem ifaceVar_of_laid {laid : List (String × DataW Unit)} {n nm : String} {d : DataW Unit} {g : Nat} {ti : TypeId} {ms : Array (String × TypeId)} (h : laidMetH P laid W) (hp : (laid.all fun x => x.2.handleName?.isNone) = true) (k : Nat) (hm : laid[k]? = some (n, .iface nm d))
    (hg : P.globalNamed n = some g) (ht : (P.globals[g]?).map (·.type) = some ti) (hi : P.underlying ti = some (.interface ms)) : ∃ u v, W.cell? ⟨g, 0, none⟩ = some (.iface u v) := by
  rw [MakeChecks.laidMetH_plain _ _ _ hp] at h
  obtain ⟨g', t', cs, fuel, p, h1, h2, h3, h4⟩ := Lib.laidMet.reads h (List.mem_of_getElem? hm)
  obtain rfl := Option.some.inj (hg.symm.trans h1)
  obtain rfl := Option.some.inj (ht.symm.trans h2)
  obtain ⟨_, u, v, hcs, _, _⟩ := iface_of_trod hi h4
  refine ⟨u, v, ?_⟩
  rw [World.var?_cell hg h3 0]
  obtain ⟨l⟩ := cs
  simp only at hcs
  subst hcs
  rfl
end
end Go.Proofs.YtokehapgddicjaaGreatFmt
