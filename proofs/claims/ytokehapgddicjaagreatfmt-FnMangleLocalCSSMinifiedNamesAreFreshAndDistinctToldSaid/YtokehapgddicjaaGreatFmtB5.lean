/- A symbol's place; FollowSymbols where there is no link. -/
import Derived.Test.YtokehapgddicjaaGreatFmtB4
namespace Go.Proofs.YtokehapgddicjaaGreatFmt
open Go.RowKit
set_option linter.unusedVariables false
set_option linter.unusedSimpArgs false
set_option maxRecDepth 100000 in
set_option maxHeartbeats 1000000 in
theorem get_any (S2 sb n i : Nat) (w : World) (h1 : w.cell? ⟨S2, 1, none⟩ = some (.slice (some ⟨sb, 0, none⟩) n n)) (hi : i < n) (hn : n ≤ 1048576) :
    Calls Tryz.prog 27 #[.agg #[.slice (some ⟨S2, 0, none⟩) 2 2], .agg #[.int .u32 1, .int .u32 (i : Int)]] w (fun e w' => e = .returned (.pointer (some ⟨sb, i * 10, none⟩)) ∧ Below w.heap.size w w') := by
  have b0 : (0 : Int) ≤ (i : Int) := by omega
  have b1 : (i : Int) < (n : Int) := by omega
  have lb := block_lt_of_cell h1
  go_enter Tryz.func27, Tryz.ntmps27
  go_wp2_with fail
  go_region
  all_goals
    go_wp2_with fail
    go_ret
    exact ⟨rfl, (((Below.refl _ _).alloc (Nat.le_refl _) _).alloc (by simp) _).drew⟩
set_option maxRecDepth 100000 in
set_option maxHeartbeats 1000000 in
theorem follow_any (S2 sb n i : Nat) (w : World) (h1 : w.cell? ⟨S2, 1, none⟩ = some (.slice (some ⟨sb, 0, none⟩) n n)) (hi : i < n) (hn : n ≤ 1048576)
    (l0 : w.cell? ⟨sb, i * 10 + 2, none⟩ = some (.int .u32 4294967295)) (l1 : w.cell? ⟨sb, i * 10 + 3, none⟩ = some (.int .u32 4294967295))
    (g0 : w.cell? ⟨0, 0, none⟩ = some (.int .u32 4294967295)) (g1 : w.cell? ⟨0, 1, none⟩ = some (.int .u32 4294967295)) :
    Calls Tryz.prog 25 #[.agg #[.slice (some ⟨S2, 0, none⟩) 2 2], .agg #[.int .u32 1, .int .u32 (i : Int)]] w (fun e w' => e = .returned (.agg #[.int .u32 1, .int .u32 (i : Int)]) ∧ Below w.heap.size w w') := by
  have ls := block_lt_of_cell l0
  have lg := block_lt_of_cell g0
  have l2 := block_lt_of_cell h1
  go_enter Tryz.func25, Tryz.ntmps25
  have hA : ∀ (o1 o2 o3 : Obj), Below w.heap.size w (((w.alloc o1).alloc o2).alloc o3) := fun o1 o2 o3 => ((((Below.refl _ _).alloc (Nat.le_refl _) _).alloc (by simp) _).alloc (by simp; omega) _)
  have HA := Lib.hid hA
  have h1' := fun (o1 o2 o3 : Obj) => ((hA o1 o2 o3).cell (p := ⟨S2, 1, none⟩) l2).trans h1
  have HC := Lib.hid (And.intro l0 (And.intro l1 (And.intro g0 (And.intro g1 h1'))))
  clear l0 l1 g0 g1 h1 hA h1'
  go_wp2_with (go_at_call 27; refine (get_any S2 sb n i _ (HC.out.2.2.2.2 _ _ _) hi hn).mono ?_; rintro e w5 ⟨rfl, hb5⟩)
  have k1 : w5.heap[w.heap.size + 1]? = some (.cells #[.int .u32 1, .int .u32 (i : Int)] 44 (0, 0)) := by
    rw [hb5.block _ (by simp), Below.heap_alloc _ _ _ (by simp)]
    have := heap_alloc_new (w.alloc (.cells #[.slice (some ⟨S2, 0, none⟩) 2 2] 159)) (.cells #[.int .u32 1, .int .u32 (i : Int)] 44)
    simpa using this
  have k2 : w5.heap[w.heap.size + 1 + 1]? = some (.cells #[.int .u32 0, .int .u32 0] 44 (0, 0)) := by
    rw [hb5.block _ (by simp)]
    have := heap_alloc_new ((w.alloc (.cells #[.slice (some ⟨S2, 0, none⟩) 2 2] 159)).alloc (.cells #[.int .u32 1, .int .u32 (i : Int)] 44)) (.cells #[.int .u32 0, .int .u32 0] 44)
    simpa using this
  have hb : Below w.heap.size w w5 := (HA.out _ _ _).trans (hb5.mono (by simp; omega))
  have l0 := (hb.cell (p := ⟨sb, i * 10 + 2, none⟩) ls).trans HC.out.1
  have l1 := (hb.cell (p := ⟨sb, i * 10 + 3, none⟩) ls).trans HC.out.2.1
  have g0 := (hb.cell (p := ⟨0, 0, none⟩) lg).trans HC.out.2.2.1
  have g1 := (hb.cell (p := ⟨0, 1, none⟩) lg).trans HC.out.2.2.2.1
  have r0 := Lib.cell_of_heap k1 0
  have r1 := Lib.cell_of_heap k1 1
  have s0 := Lib.cell_of_heap k2 0
  have s1 := Lib.cell_of_heap k2 1
  simp only [List.getElem?_toArray, List.getElem?_cons_zero, List.getElem?_cons_succ] at r0 r1 s0 s1
  have f0 := Lib.frozen_of_heap k2 0
  have f1 := Lib.frozen_of_heap k2 1
  have HB := Lib.hid (And.intro hb k2)
  clear hb5 hb k1 k2
  go_wp2_with fail
  go_region
  all_goals
    go_wp2_with fail
    exact bodyPost_ret (results_cell_row rfl _ _ (w.heap.size + 1 + 1) 44 #[.int .u32 1, .int .u32 (i : Int)] (0, 0) _ rfl (set_two' HB.out.2) Tryz.underlying44 rfl (by kernel_rfl)) rfl ⟨rfl, ((HB.out.1.setCell (p := ⟨w.heap.size + 1 + 1, 0, none⟩) (show w.heap.size ≤ w.heap.size + 1 + 1 by omega) _).setCell (p := ⟨w.heap.size + 1 + 1, 1, none⟩) (show w.heap.size ≤ w.heap.size + 1 + 1 by omega) _).drew⟩
end Go.Proofs.YtokehapgddicjaaGreatFmt
