/- The quiet log. -/
import Derived.Test.YtokehapgddicjaaGreatFmtProg
import Derived.Test.YtokehapgddicjaaGreatFmtBase
namespace Go.Proofs.YtokehapgddicjaaGreatFmt
open Go.RowKit
set_option linter.unusedVariables false
set_option linter.unusedSimpArgs false
theorem set_six {w : World} {b : Nat} {a0 a1 a2 a3 a4 a5 b0 b1 b2 b3 b4 b5 : Value} {T : TypeId} (h : w.heap[b]? = some (.cells #[a0, a1, a2, a3, a4, a5] T (0, 0))) : ((((((w.setCell ⟨b, 0, none⟩ b0).setCell ⟨b, 1, none⟩ b1).setCell ⟨b, 2, none⟩ b2).setCell ⟨b, 3, none⟩ b3).setCell ⟨b, 4, none⟩ b4).setCell ⟨b, 5, none⟩ b5).heap[b]? = some (.cells #[b0, b1, b2, b3, b4, b5] T (0, 0)) := by
  simp [World.setCell, Array.getElem?_modify, h]
theorem heap_two' (w : World) (o1 o2 : Obj) : ((w.alloc o1).alloc o2).heap[w.heap.size + 1]? = some o2 := by
  have := heap_alloc_new (w.alloc o1) o2
  simpa using this
set_option maxRecDepth 100000 in
set_option maxHeartbeats 1000000 in
theorem wrapped_any (w : World) : Calls Tryz.prog 21 #[.agg #[.func (.func 22) #[] #[], .nilFunc, .nilFunc, .nilFunc, .int .i8 0, .map none]] w (fun e w' => (∃ f0 c0 d0 f1 c1 d1, e = .returned (.agg #[.func f0 c0 d0, .func f1 c1 d1, .nilFunc, .nilFunc, .int .i8 0, .map none])) ∧ Below w.heap.size w w') := by
  have hst := fun fn x y a md wx => run_store (P := Tryz.prog) wx a (.func fn x y) md rfl
  have hst2 := fun a md wx => run_store (P := Tryz.prog) wx a .nilFunc md rfl
  go_enter Tryz.func21, Tryz.ntmps21
  go_wp2_with fail
  refine bodyPost_ret (results_cell_row rfl _ _ (w.heap.size + 1) 154 _ (0, 0) _ rfl (by rw [Below.heap_alloc _ _ _ (by simp <;> omega), Below.heap_alloc _ _ _ (by simp <;> omega), Below.heap_alloc _ _ _ (by simp <;> omega)]; exact heap_two' w _ _) Tryz.underlying154 rfl (by kernel_rfl)) rfl ⟨⟨_, _, _, _, _, _, rfl⟩, ?_⟩
  exact (((((Below.refl _ _).alloc (Nat.le_refl _) _).alloc (by simp) _).alloc (by simp; omega) _).alloc (by simp; omega) _).alloc (by simp; omega) _
set_option maxRecDepth 100000 in
set_option maxHeartbeats 1000000 in
theorem quiet_any (w : World) : Calls Tryz.prog 19 #[] w (fun e w' => (∃ f0 c0 d0 f1 c1 d1, e = .returned (.agg #[.func f0 c0 d0, .func f1 c1 d1, .nilFunc, .nilFunc, .int .i8 0, .map none])) ∧ Below w.heap.size w w') := by
  have hst := fun fn x y a md wx => run_store (P := Tryz.prog) wx a (.func fn x y) md rfl
  have hst2 := fun a md wx => run_store (P := Tryz.prog) wx a .nilFunc md rfl
  go_enter Tryz.func19, Tryz.ntmps19
  go_wp2_with (go_at_call 21; refine (wrapped_any _).mono ?_; rintro e w1 ⟨⟨f0, c0, d0, f1, c1, d1, rfl⟩, hb⟩; have h0 : w1.heap[w.heap.size]? = some (.cells #[.nilFunc, .nilFunc, .nilFunc, .nilFunc, .int .i8 0, .map none] 154) := (hb.block _ (by simp)).trans (heap_alloc_new w _); have z0 := Lib.cell_of_heap h0 0; have z1 := Lib.cell_of_heap h0 1; have z2 := Lib.cell_of_heap h0 2; have z3 := Lib.cell_of_heap h0 3; have z4 := Lib.cell_of_heap h0 4; have z5 := Lib.cell_of_heap h0 5; simp only [List.getElem?_toArray, List.getElem?_cons_zero, List.getElem?_cons_succ] at z0 z1 z2 z3 z4 z5; have g0 := Lib.frozen_of_heap h0 0; have g1 := Lib.frozen_of_heap h0 1; have g2 := Lib.frozen_of_heap h0 2; have g3 := Lib.frozen_of_heap h0 3; have g4 := Lib.frozen_of_heap h0 4; have g5 := Lib.frozen_of_heap h0 5)
  refine bodyPost_ret (results_cell_row rfl _ _ w.heap.size 154 _ (0, 0) _ rfl (set_six h0) Tryz.underlying154 rfl (by kernel_rfl)) rfl ⟨⟨_, _, _, _, _, _, rfl⟩, ?_⟩
  exact ((((((((Below.refl _ _).alloc (Nat.le_refl _) _).trans (hb.mono (by simp))).setCell (p := ⟨w.heap.size, 0, none⟩) (Nat.le_refl _) _).setCell (p := ⟨w.heap.size, 1, none⟩) (Nat.le_refl _) _).setCell (p := ⟨w.heap.size, 2, none⟩) (Nat.le_refl _) _).setCell (p := ⟨w.heap.size, 3, none⟩) (Nat.le_refl _) _).setCell (p := ⟨w.heap.size, 4, none⟩) (Nat.le_refl _) _).setCell (p := ⟨w.heap.size, 5, none⟩) (Nat.le_refl _) _
end Go.Proofs.YtokehapgddicjaaGreatFmt
