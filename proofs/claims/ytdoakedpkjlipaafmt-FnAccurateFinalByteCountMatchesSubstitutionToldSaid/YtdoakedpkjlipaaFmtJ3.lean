/- Offsets in lines and columns: whatever they come to, they stay numbers. -/
import Derived.Test.YtdoakedpkjlipaaFmtJ2
import Derived.Test.YtdoakedpkjlipaaFmtUtf8
import Derived.RegionTactic
import Derived.ChangeAlike
import Derived.OneCell
import Derived.WalkSmall
import Derived.Lib.OthersKept
import Derived.Lib.TrimU
namespace Go.Proofs.YtdoakedpkjlipaaFmt
open Go.RowKit
set_option linter.unusedVariables false

/-- Block b holds n numbers. -/
def Nums (w : World) (b : Nat) (T : TypeId) (n : Nat) : Prop := ∃ cs : Array Value, cs.size = n ∧ (∀ i, i < n → ∃ x : Int, cs[i]? = some (.int .i64 x)) ∧ w.heap[b]? = some (.cells cs T (0, 0))
theorem Nums.lt {w : World} {b : Nat} {T : TypeId} {n : Nat} (h : Nums w b T n) : b < w.heap.size := by
  obtain ⟨cs, _, _, h⟩ := h
  exact (Array.getElem?_eq_some_iff.1 h).1
theorem Nums.cell {w : World} {b : Nat} {T : TypeId} {n : Nat} (h : Nums w b T n) {i : Nat} (hi : i < n) : ∃ x : Int, w.cell? ⟨b, i, none⟩ = some (.int .i64 x) := by
  obtain ⟨cs, hs, hx, h⟩ := h
  obtain ⟨x, hx⟩ := hx i hi
  exact ⟨x, by rw [cell_of_row _ _ i _ _ _ h, hx]⟩
theorem Nums.free {w : World} {b : Nat} {T : TypeId} {n : Nat} (h : Nums w b T n) (i : Nat) : w.frozen? ⟨b, i, none⟩ = false := by
  obtain ⟨cs, hs, hx, h⟩ := h
  exact frozen_of_row _ _ _ _ _ h
theorem Nums.block {w w' : World} {b : Nat} {T : TypeId} {n : Nat} (h : Nums w b T n) (hb : w'.heap[b]? = w.heap[b]?) : Nums w' b T n := by
  obtain ⟨cs, hs, hx, h⟩ := h
  exact ⟨cs, hs, hx, hb.trans h⟩
theorem Nums.set {w : World} {b : Nat} {T : TypeId} {n : Nat} (h : Nums w b T n) (i : Nat) (x : Int) : Nums (w.setCell ⟨b, i, none⟩ (.int .i64 x)) b T n := by
  obtain ⟨cs, hs, hx, h⟩ := h
  refine ⟨cs.setIfInBounds i (.int .i64 x), by simpa using hs, ?_, ?_⟩
  · intro j hj
    by_cases e : i = j
    · subst e
      exact ⟨x, by rw [Array.getElem?_setIfInBounds]; simp; omega⟩
    · obtain ⟨y, hy⟩ := hx j hj
      exact ⟨y, by rw [Array.getElem?_setIfInBounds, if_neg e]; exact hy⟩
  · exact heap_setCell_same _ _ _ _ _ _ h
theorem Nums.drew {w : World} {b : Nat} {T : TypeId} {n : Nat} (h : Nums w b T n) : Nums w.drew b T n := h.block rfl
theorem Nums.alloc {w : World} {b : Nat} {T : TypeId} {n : Nat} (h : Nums w b T n) (o : Obj) : Nums (w.alloc o) b T n := h.block (heap_alloc_old _ _ h.lt)
/-- A world with new blocks and writes to block b alone, which still holds n numbers. -/
def Turned (b : Nat) (T : TypeId) (n : Nat) (w : World) (e : Ending) (w' : World) : Prop := e = .returned (.tuple #[]) ∧ w.grownBy w' (some b) ∧ Nums w' b T n
theorem grown_set {w w' : World} {b : Nat} (h : w.grownBy w' (some b)) (i : Nat) (v : Value) : w.grownBy (w'.setCell ⟨b, i, none⟩ v) (some b) := by
  refine ⟨h.os, h.tape, h.output, by simp; exact h.size, fun k hk hne => ?_⟩
  rw [heap_setCell_other _ _ _ _ (by show k ≠ b; intro e; exact hne (by rw [e]))]
  exact h.block k hk hne
theorem grown_refl (w : World) (r : Option Nat) : w.grownBy w r := ⟨rfl, rfl, rfl, Nat.le_refl _, fun _ _ _ => rfl⟩
theorem grown_alloc {w w' : World} {r : Option Nat} (h : w.grownBy w' r) (o : Obj) : w.grownBy (w'.alloc o) r :=
  ⟨h.os, h.tape, h.output, by have := h.size; simp; omega, fun k hk hne => (heap_alloc_old _ _ (Nat.lt_of_lt_of_le hk h.size)).trans (h.block k hk hne)⟩
theorem grown_below {w w' w2 : World} {r : Option Nat} (h : w.grownBy w' r) (hb : Below w'.heap.size w' w2) : w.grownBy w2 r :=
  ⟨hb.os.trans h.os, hb.tape.trans h.tape, hb.output.trans h.output, Nat.le_trans h.size hb.size, fun k hk hne => (hb.block k (Nat.lt_of_lt_of_le hk h.size)).trans (h.block k hk hne)⟩
theorem grown_trans {w w' w2 : World} {r : Option Nat} (h : w.grownBy w' r) (g : w'.grownBy w2 r) : w.grownBy w2 r :=
  ⟨g.os.trans h.os, g.tape.trans h.tape, g.output.trans h.output, Nat.le_trans h.size g.size, fun k hk hne => (g.block k (Nat.lt_of_lt_of_le hk h.size) hne).trans (h.block k hk hne)⟩
theorem grown_drew {w w' : World} {r : Option Nat} (h : w.grownBy w' r) : w.grownBy w'.drew r := ⟨h.os, h.tape, h.output, h.size, h.block⟩
theorem grown_drewN {w w' : World} {r : Option Nat} (h : w.grownBy w' r) (n : Nat) : w.grownBy (w'.drewN n) r := ⟨h.os, h.tape, h.output, h.size, h.block⟩

set_option maxRecDepth 100000 in
set_option maxHeartbeats 1000000 in
theorem add_any (b o n : Nat) (T : TypeId) (x y : Int) (w : World) (h : Nums w b T n) (ho : o + 1 < n) : Calls Tryf.prog 23 #[.pointer (some ⟨b, o, none⟩), .agg #[.int .i64 x, .int .i64 y]] w (Turned b T n w) := by
  obtain ⟨c0, hc0⟩ := h.cell (i := o) (by omega)
  obtain ⟨c1, hc1⟩ := h.cell (i := o + 1) ho
  have f0 := h.free o
  have f1 := h.free (o + 1)
  have hb := h.lt
  have H := Lib.hid h
  clear h
  by_cases hx : x = 0
  · have hx' : (x == 0) = true := by simpa using hx
    subst hx
    go_enter Tryf.func23, Tryf.ntmps23
    go_wp2_with fail
    go_region
    all_goals
      go_wp2_with fail
      go_end0
      exact ⟨rfl, by repeat (first | exact grown_refl _ _ | refine grown_drew ?_ | refine grown_set ?_ _ _ | refine grown_alloc ?_ _), by repeat (first | exact H.out | refine Nums.drew ?_ | refine Nums.set ?_ _ _ | refine Nums.alloc ?_ _)⟩
  · have hx' : (x == 0) = false := by simpa using hx
    go_enter Tryf.func23, Tryf.ntmps23
    go_wp2_with fail
    go_region
    all_goals
      go_wp2_with fail
      go_end0
      exact ⟨rfl, by repeat (first | exact grown_refl _ _ | refine grown_drew ?_ | refine grown_set ?_ _ _ | refine grown_alloc ?_ _), by repeat (first | exact H.out | refine Nums.drew ?_ | refine Nums.set ?_ _ _ | refine Nums.alloc ?_ _)⟩
/-- m bytes of d from p on. -/
def mkB (d : Nat → UInt8) (p m : Nat) : ByteArray := ⟨((List.range m).map fun j => d (p + j)).toArray⟩
theorem mkB_size (d : Nat → UInt8) (p m : Nat) : (mkB d p m).size = m := by simp [mkB, ByteArray.size]
theorem mkB_get (d : Nat → UInt8) (p m j : Nat) (h : j < m) : (mkB d p m).get! j = d (p + j) := by
  simp [mkB, ByteArray.get!, h]
theorem dec_any (d : Nat → UInt8) (p n b off cap : Nat) (w : World) (hn : 0 < n) (hT : Lib.Utf8Tabs 0 1 w) (hp : ∀ j, j < n → w.cell? ⟨b, off + j, none⟩ = some (.int .u8 (d (p + j)).toNat)) :
    Calls Tryf.prog 31 #[.slice (some ⟨b, off, none⟩) n cap] w fun e w' => ∃ r k : Nat, e = .returned (.tuple #[.int .i32 r, .int .i64 k]) ∧ 1 ≤ k ∧ k ≤ n ∧ Below w.heap.size w w' := by
  have hs := mkB_size d p n
  have h := Tryf.utf8_DecodeRune (mkB d p n) b off cap w hT (fun j hj => by rw [hs] at hj; rw [mkB_get _ _ _ _ hj]; exact hp j hj)
  rw [hs] at h
  refine h.mono fun e w' ⟨he, hb⟩ => ⟨_, _, he, ?_, ?_, hb⟩
  · rw [Lib.decodeGo, if_neg (by omega)]
    exact Lib.width_pos _ _
  · have := Lib.decodeGo_le_size (mkB d p n)
    rw [hs] at this
    exact this
abbrev byteAt (d : Nat → UInt8) : Nat → Value := fun i => .int .u8 (d i).toNat
end Go.Proofs.YtdoakedpkjlipaaFmt
