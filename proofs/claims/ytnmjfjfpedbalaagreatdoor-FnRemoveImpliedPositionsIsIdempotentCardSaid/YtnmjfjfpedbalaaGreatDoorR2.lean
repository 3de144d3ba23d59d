/- Words of the reading of values: a cell set in a row, a token, a float boxed. -/
import Derived.Test.YtnmjfjfpedbalaaGreatDoorParseFrac
import Derived.Test.YtnmjfjfpedbalaaGreatDoorR1
import Derived.Laws.ResultCell
namespace Go.Proofs.YtnmjfjfpedbalaaGreatDoor
open Go.RowKit
theorem setCell_row {w : World} {B i : Nat} {v : Value} {row : Array Value} {T : TypeId} {q : Nat × Nat} (h : w.heap[B]? = some (.cells row T q)) : (w.setCell ⟨B, i, none⟩ v).heap[B]? = some (.cells (row.setIfInBounds i v) T q) := by
  rw [setCell_eq_setRow _ _ _ _ _ _ _ h]
  exact setRow_heap _ _ _ _ _ _ h
abbrev tokU (k : Int) (s : ByteArray) (loc o : Int) : Value := .agg #[.pointer none, .string s, .int .i32 loc, .int .u32 0, .int .u16 o, .int .u8 k, .int .u8 0]
set_option maxRecDepth 100000 in
theorem newf_any (v : Nat) (w : World) : Calls Tryz.prog 18 #[.float .f64 v] w fun e w' => e = .returned (.agg #[.float .f64 v]) ∧ Below w.heap.size w w' := by
  go_enter Tryz.func18, Tryz.ntmps18
  have hh := heap_alloc_new w (.cells #[.float .f64 0] 55)
  have HH := Lib.hid hh
  clear hh
  go_wp2_with (refine wpList_store_row rfl 55 _ _ rfl w.heap.size _ rfl rfl 55 _ HH.out (by kernel_rfl) rfl (by kernel_rfl) ?_)
  have hr := setRow_heap (w.alloc (.cells #[.float .f64 0] 55)) w.heap.size _ #[.float .f64 v] 55 (0, 0) HH.out
  refine bodyPost_ret (results_cell_row rfl _ _ w.heap.size 55 _ (0, 0) _ rfl hr Tryz.underlying55 rfl (by kernel_rfl)) rfl ⟨rfl, ?_⟩
  exact below_setRow ((Below.refl _ _).alloc (Nat.le_refl _) _) (Nat.le_refl _) _
end Go.Proofs.YtnmjfjfpedbalaaGreatDoor
