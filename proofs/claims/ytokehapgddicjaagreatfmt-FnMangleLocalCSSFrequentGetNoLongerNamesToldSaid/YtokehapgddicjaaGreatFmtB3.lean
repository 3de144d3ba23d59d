/- The methods of the two arrays that are sorted; sort.Sort over them. -/
import Derived.Test.YtokehapgddicjaaGreatFmtZ1
import Derived.Test.YtokehapgddicjaaGreatFmtSortG
import Derived.Test.YtokehapgddicjaaGreatFmtShelf
namespace Go.Proofs.YtokehapgddicjaaGreatFmt
open Go.RowKit
set_option linter.unusedVariables false
set_option linter.unusedSimpArgs false
theorem cell_set_some {w : World} {p q : Addr} {x v : Value} (h : w.cell? q = some v) : ∃ v', (w.setCell p x).cell? q = some v' := by
  by_cases e : p = q
  · subst e; exact ⟨x, World.cell?_setCell_same w p x h⟩
  · exact ⟨v, (World.cell?_setCell_other w p q x e).trans h⟩
set_option maxRecDepth 100000 in
set_option maxHeartbeats 1000000 in
theorem ccSwap_raw (g n c i j : Nat) (p0 q0 : ByteArray) (p1 q1 : Int) (p2 q2 : Int) (w : World) (hi : i < n) (hj : j < n) (hn : n ≤ 1048576)
    (a0 : w.cell? ⟨g, i * 3, none⟩ = some (.string p0)) (b0 : w.cell? ⟨g, j * 3, none⟩ = some (.string q0))
    (a1 : w.cell? ⟨g, i * 3 + 1, none⟩ = some (.int .i32 p1)) (b1 : w.cell? ⟨g, j * 3 + 1, none⟩ = some (.int .i32 q1))
    (a2 : w.cell? ⟨g, i * 3 + 2, none⟩ = some (.int .u8 p2)) (b2 : w.cell? ⟨g, j * 3 + 2, none⟩ = some (.int .u8 q2))
    (fr : ∀ o, w.frozen? ⟨g, o, none⟩ = false) :
    Calls Tryz.prog 147 #[.slice (some ⟨g, 0, none⟩) n c, .int .i64 i, .int .i64 j] w (fun e w' => e = .returned (.tuple #[]) ∧ w' = ((w.setCells g (i * 3) [.string q0, .int .i32 q1, .int .u8 q2]).setCells g (j * 3) [.string p0, .int .i32 p1, .int .u8 p2]).drew) := by
  have i0 : (0 : Int) ≤ (i : Int) := by omega
  have i1 : (i : Int) < (n : Int) := by omega
  have j0 : (0 : Int) ≤ (j : Int) := by omega
  have j1 : (j : Int) < (n : Int) := by omega
  have f0 := fr (i * 3)
  have f1 := fr (i * 3 + 1)
  have f2 := fr (i * 3 + 2)
  have h0 := fr (j * 3)
  have h1 := fr (j * 3 + 1)
  have h2 := fr (j * 3 + 2)
  clear fr
  obtain ⟨u1_0, d1_0⟩ := cell_set_some (w := w) (p := ⟨g, i * 3, none⟩) (x := .string q0) (q := ⟨g, i * 3 + 1, none⟩) a1
  obtain ⟨u2_0, d2_0⟩ := cell_set_some (w := w) (p := ⟨g, i * 3, none⟩) (x := .string q0) (q := ⟨g, i * 3 + 2, none⟩) a2
  obtain ⟨u2_1, d2_1⟩ := cell_set_some (p := ⟨g, i * 3 + 1, none⟩) (x := .int .i32 q1) (q := ⟨g, i * 3 + 2, none⟩) d2_0
  obtain ⟨u3_0, d3_0⟩ := cell_set_some (w := w) (p := ⟨g, i * 3, none⟩) (x := .string q0) (q := ⟨g, j * 3, none⟩) b0
  obtain ⟨u3_1, d3_1⟩ := cell_set_some (p := ⟨g, i * 3 + 1, none⟩) (x := .int .i32 q1) (q := ⟨g, j * 3, none⟩) d3_0
  obtain ⟨u3_2, d3_2⟩ := cell_set_some (p := ⟨g, i * 3 + 2, none⟩) (x := .int .u8 q2) (q := ⟨g, j * 3, none⟩) d3_1
  obtain ⟨u4_0, d4_0⟩ := cell_set_some (w := w) (p := ⟨g, i * 3, none⟩) (x := .string q0) (q := ⟨g, j * 3 + 1, none⟩) b1
  obtain ⟨u4_1, d4_1⟩ := cell_set_some (p := ⟨g, i * 3 + 1, none⟩) (x := .int .i32 q1) (q := ⟨g, j * 3 + 1, none⟩) d4_0
  obtain ⟨u4_2, d4_2⟩ := cell_set_some (p := ⟨g, i * 3 + 2, none⟩) (x := .int .u8 q2) (q := ⟨g, j * 3 + 1, none⟩) d4_1
  obtain ⟨u4_3, d4_3⟩ := cell_set_some (p := ⟨g, j * 3, none⟩) (x := .string p0) (q := ⟨g, j * 3 + 1, none⟩) d4_2
  obtain ⟨u5_0, d5_0⟩ := cell_set_some (w := w) (p := ⟨g, i * 3, none⟩) (x := .string q0) (q := ⟨g, j * 3 + 2, none⟩) b2
  obtain ⟨u5_1, d5_1⟩ := cell_set_some (p := ⟨g, i * 3 + 1, none⟩) (x := .int .i32 q1) (q := ⟨g, j * 3 + 2, none⟩) d5_0
  obtain ⟨u5_2, d5_2⟩ := cell_set_some (p := ⟨g, i * 3 + 2, none⟩) (x := .int .u8 q2) (q := ⟨g, j * 3 + 2, none⟩) d5_1
  obtain ⟨u5_3, d5_3⟩ := cell_set_some (p := ⟨g, j * 3, none⟩) (x := .string p0) (q := ⟨g, j * 3 + 2, none⟩) d5_2
  obtain ⟨u5_4, d5_4⟩ := cell_set_some (p := ⟨g, j * 3 + 1, none⟩) (x := .int .i32 p1) (q := ⟨g, j * 3 + 2, none⟩) d5_3
  clear d2_0 d3_0 d3_1 d4_0 d4_1 d4_2 d5_0 d5_1 d5_2 d5_3
  go_enter Tryz.func147, Tryz.ntmps147
  go_wp2_with fail
  go_region
  all_goals (go_end0; exact ⟨rfl, rfl⟩)
set_option maxRecDepth 100000 in
set_option maxHeartbeats 1000000 in
theorem scSwap_raw (g n c i j : Nat) (p0 q0 : Int) (p1 q1 : Int) (p2 q2 : Int) (p3 q3 : Int) (w : World) (hi : i < n) (hj : j < n) (hn : n ≤ 1048576)
    (a0 : w.cell? ⟨g, i * 4, none⟩ = some (.int .u32 p0)) (b0 : w.cell? ⟨g, j * 4, none⟩ = some (.int .u32 q0))
    (a1 : w.cell? ⟨g, i * 4 + 1, none⟩ = some (.int .u32 p1)) (b1 : w.cell? ⟨g, j * 4 + 1, none⟩ = some (.int .u32 q1))
    (a2 : w.cell? ⟨g, i * 4 + 2, none⟩ = some (.int .u32 p2)) (b2 : w.cell? ⟨g, j * 4 + 2, none⟩ = some (.int .u32 q2))
    (a3 : w.cell? ⟨g, i * 4 + 3, none⟩ = some (.int .u32 p3)) (b3 : w.cell? ⟨g, j * 4 + 3, none⟩ = some (.int .u32 q3))
    (fr : ∀ o, w.frozen? ⟨g, o, none⟩ = false) :
    Calls Tryz.prog 138 #[.slice (some ⟨g, 0, none⟩) n c, .int .i64 i, .int .i64 j] w (fun e w' => e = .returned (.tuple #[]) ∧ w' = ((w.setCells g (i * 4) [.int .u32 q0, .int .u32 q1, .int .u32 q2, .int .u32 q3]).setCells g (j * 4) [.int .u32 p0, .int .u32 p1, .int .u32 p2, .int .u32 p3]).drew) := by
  have i0 : (0 : Int) ≤ (i : Int) := by omega
  have i1 : (i : Int) < (n : Int) := by omega
  have j0 : (0 : Int) ≤ (j : Int) := by omega
  have j1 : (j : Int) < (n : Int) := by omega
  have f0 := fr (i * 4)
  have f1 := fr (i * 4 + 1)
  have f2 := fr (i * 4 + 2)
  have f3 := fr (i * 4 + 3)
  have h0 := fr (j * 4)
  have h1 := fr (j * 4 + 1)
  have h2 := fr (j * 4 + 2)
  have h3 := fr (j * 4 + 3)
  clear fr
  obtain ⟨u1_0, d1_0⟩ := cell_set_some (w := w) (p := ⟨g, i * 4, none⟩) (x := .int .u32 q0) (q := ⟨g, i * 4 + 1, none⟩) a1
  obtain ⟨u2_0, d2_0⟩ := cell_set_some (w := w) (p := ⟨g, i * 4, none⟩) (x := .int .u32 q0) (q := ⟨g, i * 4 + 2, none⟩) a2
  obtain ⟨u2_1, d2_1⟩ := cell_set_some (p := ⟨g, i * 4 + 1, none⟩) (x := .int .u32 q1) (q := ⟨g, i * 4 + 2, none⟩) d2_0
  obtain ⟨u3_0, d3_0⟩ := cell_set_some (w := w) (p := ⟨g, i * 4, none⟩) (x := .int .u32 q0) (q := ⟨g, i * 4 + 3, none⟩) a3
  obtain ⟨u3_1, d3_1⟩ := cell_set_some (p := ⟨g, i * 4 + 1, none⟩) (x := .int .u32 q1) (q := ⟨g, i * 4 + 3, none⟩) d3_0
  obtain ⟨u3_2, d3_2⟩ := cell_set_some (p := ⟨g, i * 4 + 2, none⟩) (x := .int .u32 q2) (q := ⟨g, i * 4 + 3, none⟩) d3_1
  obtain ⟨u4_0, d4_0⟩ := cell_set_some (w := w) (p := ⟨g, i * 4, none⟩) (x := .int .u32 q0) (q := ⟨g, j * 4, none⟩) b0
  obtain ⟨u4_1, d4_1⟩ := cell_set_some (p := ⟨g, i * 4 + 1, none⟩) (x := .int .u32 q1) (q := ⟨g, j * 4, none⟩) d4_0
  obtain ⟨u4_2, d4_2⟩ := cell_set_some (p := ⟨g, i * 4 + 2, none⟩) (x := .int .u32 q2) (q := ⟨g, j * 4, none⟩) d4_1
  obtain ⟨u4_3, d4_3⟩ := cell_set_some (p := ⟨g, i * 4 + 3, none⟩) (x := .int .u32 q3) (q := ⟨g, j * 4, none⟩) d4_2
  obtain ⟨u5_0, d5_0⟩ := cell_set_some (w := w) (p := ⟨g, i * 4, none⟩) (x := .int .u32 q0) (q := ⟨g, j * 4 + 1, none⟩) b1
  obtain ⟨u5_1, d5_1⟩ := cell_set_some (p := ⟨g, i * 4 + 1, none⟩) (x := .int .u32 q1) (q := ⟨g, j * 4 + 1, none⟩) d5_0
  obtain ⟨u5_2, d5_2⟩ := cell_set_some (p := ⟨g, i * 4 + 2, none⟩) (x := .int .u32 q2) (q := ⟨g, j * 4 + 1, none⟩) d5_1
  obtain ⟨u5_3, d5_3⟩ := cell_set_some (p := ⟨g, i * 4 + 3, none⟩) (x := .int .u32 q3) (q := ⟨g, j * 4 + 1, none⟩) d5_2
  obtain ⟨u5_4, d5_4⟩ := cell_set_some (p := ⟨g, j * 4, none⟩) (x := .int .u32 p0) (q := ⟨g, j * 4 + 1, none⟩) d5_3
  obtain ⟨u6_0, d6_0⟩ := cell_set_some (w := w) (p := ⟨g, i * 4, none⟩) (x := .int .u32 q0) (q := ⟨g, j * 4 + 2, none⟩) b2
  obtain ⟨u6_1, d6_1⟩ := cell_set_some (p := ⟨g, i * 4 + 1, none⟩) (x := .int .u32 q1) (q := ⟨g, j * 4 + 2, none⟩) d6_0
  obtain ⟨u6_2, d6_2⟩ := cell_set_some (p := ⟨g, i * 4 + 2, none⟩) (x := .int .u32 q2) (q := ⟨g, j * 4 + 2, none⟩) d6_1
  obtain ⟨u6_3, d6_3⟩ := cell_set_some (p := ⟨g, i * 4 + 3, none⟩) (x := .int .u32 q3) (q := ⟨g, j * 4 + 2, none⟩) d6_2
  obtain ⟨u6_4, d6_4⟩ := cell_set_some (p := ⟨g, j * 4, none⟩) (x := .int .u32 p0) (q := ⟨g, j * 4 + 2, none⟩) d6_3
  obtain ⟨u6_5, d6_5⟩ := cell_set_some (p := ⟨g, j * 4 + 1, none⟩) (x := .int .u32 p1) (q := ⟨g, j * 4 + 2, none⟩) d6_4
  obtain ⟨u7_0, d7_0⟩ := cell_set_some (w := w) (p := ⟨g, i * 4, none⟩) (x := .int .u32 q0) (q := ⟨g, j * 4 + 3, none⟩) b3
  obtain ⟨u7_1, d7_1⟩ := cell_set_some (p := ⟨g, i * 4 + 1, none⟩) (x := .int .u32 q1) (q := ⟨g, j * 4 + 3, none⟩) d7_0
  obtain ⟨u7_2, d7_2⟩ := cell_set_some (p := ⟨g, i * 4 + 2, none⟩) (x := .int .u32 q2) (q := ⟨g, j * 4 + 3, none⟩) d7_1
  obtain ⟨u7_3, d7_3⟩ := cell_set_some (p := ⟨g, i * 4 + 3, none⟩) (x := .int .u32 q3) (q := ⟨g, j * 4 + 3, none⟩) d7_2
  obtain ⟨u7_4, d7_4⟩ := cell_set_some (p := ⟨g, j * 4, none⟩) (x := .int .u32 p0) (q := ⟨g, j * 4 + 3, none⟩) d7_3
  obtain ⟨u7_5, d7_5⟩ := cell_set_some (p := ⟨g, j * 4 + 1, none⟩) (x := .int .u32 p1) (q := ⟨g, j * 4 + 3, none⟩) d7_4
  obtain ⟨u7_6, d7_6⟩ := cell_set_some (p := ⟨g, j * 4 + 2, none⟩) (x := .int .u32 p2) (q := ⟨g, j * 4 + 3, none⟩) d7_5
  clear d2_0 d3_0 d3_1 d4_0 d4_1 d4_2 d5_0 d5_1 d5_2 d5_3 d6_0 d6_1 d6_2 d6_3 d6_4 d7_0 d7_1 d7_2 d7_3 d7_4 d7_5
  go_enter Tryz.func138, Tryz.ntmps138
  go_wp2_with fail
  go_region
  all_goals (go_end0; exact ⟨rfl, rfl⟩)
section
variable {α : Type} [Inhabited α] {k n g c base : Nat} {e : TypeId} {enc : α → List Value}
theorem row_cell (hk : ∀ x, (enc x).length = k) {d : Array α} {w : World} (hd : d.size = n) (ho : w.ownsRow base e k (.slice (some ⟨g, 0, none⟩) n c) n (flat enc d.toList)) {i r : Nat} (hi : i < n) (hr : r < k) : w.cell? ⟨g, i * k + r, none⟩ = (enc d[i]!)[r]? := by
  have hb : i * k + k ≤ n * k := by
    have := Nat.mul_le_mul_right k (show i + 1 ≤ n from hi)
    rw [Nat.add_mul] at this
    omega
  rw [ho.cellAt _ (by omega), flat_at hk _ _ _ (by simpa [hd] using hi) hr, getElem!_pos d i (by omega)]
  simp
theorem swap_rows (hk : ∀ x, (enc x).length = k) {d : Array α} {w : World} (hd : d.size = n) (ho : w.ownsRow base e k (.slice (some ⟨g, 0, none⟩) n c) n (flat enc d.toList)) {i j : Nat} (hi : i < n) (hj : j < n) :
    (((w.setCells g (i * k) (enc d[j]!)).setCells g (j * k) (enc d[i]!)).drew).ownsRow base e k (.slice (some ⟨g, 0, none⟩) n c) n (flat enc (Go.Sort.swp d i j).toList) ∧ w.grownBy (((w.setCells g (i * k) (enc d[j]!)).setCells g (j * k) (enc d[i]!)).drew) (some g) := by
  obtain ⟨h1, g1⟩ := owns_setCells (enc d[j]!) (i * k) w _ ho
  rw [flat_set hk _ _ _ (by simpa [hd] using hi)] at h1
  obtain ⟨h2, g2⟩ := owns_setCells (enc d[i]!) (j * k) _ _ h1
  rw [flat_set hk _ _ _ (by simpa [hd] using hj)] at h2
  rw [swp_list d i j (by omega) (by omega)]
  rw [getElem!_pos d i (by omega), getElem!_pos d j (by omega)] at *
  exact ⟨h2, ⟨g2.os.trans g1.os, g2.tape.trans g1.tape, g2.output.trans g1.output, Nat.le_trans g1.size g2.size, fun b hb hne => (g2.block b (Nat.lt_of_lt_of_le hb g1.size) hne).trans (g1.block b hb hne)⟩⟩
end
/-! The array of letters and counts: the counts are nought. -/
def encC (x : ByteArray × Nat) : List Value := [.string x.1, .int .i32 0, .int .u8 (x.2 : Int)]
theorem encC_len : ∀ x, (encC x).length = 3 := fun _ => rfl
def ltC (x y : ByteArray × Nat) : Bool := decide (x.2 < y.2)
theorem ltC_swo : Go.Sort.SWO ltC where
  irrefl := fun x => by simp [ltC]
  trans := fun x y z => by simp only [ltC, decide_eq_true_eq]; omega
  ntrans := fun x y z => by simp only [ltC, decide_eq_false_iff_not]; omega
set_option maxRecDepth 100000 in
set_option maxHeartbeats 1000000 in
theorem ccLess_raw (g n c i j : Nat) (s1 s2 : ByteArray) (x1 x2 : Nat) (w : World) (hi : i < n) (hj : j < n) (hn : n ≤ 1048576)
    (a0 : w.cell? ⟨g, i * 3, none⟩ = some (.string s1)) (a1 : w.cell? ⟨g, i * 3 + 1, none⟩ = some (.int .i32 0)) (a2 : w.cell? ⟨g, i * 3 + 2, none⟩ = some (.int .u8 (x1 : Int)))
    (b0 : w.cell? ⟨g, j * 3, none⟩ = some (.string s2)) (b1 : w.cell? ⟨g, j * 3 + 1, none⟩ = some (.int .i32 0)) (b2 : w.cell? ⟨g, j * 3 + 2, none⟩ = some (.int .u8 (x2 : Int))) :
    Calls Tryz.prog 146 #[.slice (some ⟨g, 0, none⟩) n c, .int .i64 i, .int .i64 j] w (fun e w' => e = .returned (.bool (decide (x1 < x2))) ∧ Below w.heap.size w w') := by
  have i0 : (0 : Int) ≤ (i : Int) := by omega
  have i1 : (i : Int) < (n : Int) := by omega
  have j0 : (0 : Int) ≤ (j : Int) := by omega
  have j1 : (j : Int) < (n : Int) := by omega
  have lg := block_lt_of_cell b0
  go_enter Tryz.func146, Tryz.ntmps146
  go_wp2_with fail
  go_ret
  exact ⟨by simp, ((Below.refl _ _).alloc (Nat.le_refl _) _).alloc (by simp) _⟩
set_option maxRecDepth 100000 in
set_option maxHeartbeats 1000000 in
theorem scLess_raw (g n c i j x1 x2 : Nat) (c1 c2 : Int) (w : World) (hi : i < n) (hj : j < n) (hn : n ≤ 1048576)
    (a0 : w.cell? ⟨g, i * 4, none⟩ = some (.int .u32 1)) (a1 : w.cell? ⟨g, i * 4 + 1, none⟩ = some (.int .u32 1)) (a2 : w.cell? ⟨g, i * 4 + 2, none⟩ = some (.int .u32 (x1 : Int))) (a3 : w.cell? ⟨g, i * 4 + 3, none⟩ = some (.int .u32 c1))
    (b0 : w.cell? ⟨g, j * 4, none⟩ = some (.int .u32 1)) (b1 : w.cell? ⟨g, j * 4 + 1, none⟩ = some (.int .u32 1)) (b2 : w.cell? ⟨g, j * 4 + 2, none⟩ = some (.int .u32 (x2 : Int))) (b3 : w.cell? ⟨g, j * 4 + 3, none⟩ = some (.int .u32 c2)) :
    Calls Tryz.prog 137 #[.slice (some ⟨g, 0, none⟩) n c, .int .i64 i, .int .i64 j] w (fun e w' => e = .returned (.bool (decide (c1 > c2) || (decide (c1 = c2) && decide (x1 < x2)))) ∧ Below w.heap.size w w') := by
  have i0 : (0 : Int) ≤ (i : Int) := by omega
  have i1 : (i : Int) < (n : Int) := by omega
  have j0 : (0 : Int) ≤ (j : Int) := by omega
  have j1 : (j : Int) < (n : Int) := by omega
  have lg := block_lt_of_cell b0
  have bel : ∀ o1 o2 : Obj, Below w.heap.size w (((w.alloc o1).alloc o2).drew) := fun o1 o2 => (((Below.refl _ _).alloc (Nat.le_refl _) _).alloc (by simp) _).drew
  by_cases h1 : c2 < c1
  · go_enter Tryz.func137, Tryz.ntmps137
    go_wp2_with fail
    go_region
    all_goals
      go_wp2_with fail
      go_ret
      exact ⟨by simp [h1], bel _ _⟩
  · by_cases h2 : c1 < c2
    · have e1 : ¬ c1 = c2 := by omega
      go_enter Tryz.func137, Tryz.ntmps137
      go_wp2_with fail
      go_region
      all_goals
        go_wp2_with fail
        go_ret
        exact ⟨by simp [h1, e1], bel _ _⟩
    · obtain rfl : c1 = c2 := by omega
      clear h2
      go_enter Tryz.func137, Tryz.ntmps137
      go_wp2_with fail
      go_region
      all_goals
        go_wp2_with fail
        go_ret
        exact ⟨by simp, bel _ _⟩
theorem cc_Len (g n c : Nat) (w : World) : Calls Tryz.prog 145 #[.slice (some ⟨g, 0, none⟩) n c] w (fun e w' => e = .returned (.int .i64 n) ∧ Below w.heap.size w w') := by
  go_enter Tryz.func145, Tryz.ntmps145
  go_wp2_with fail
  go_ret
  exact ⟨rfl, Below.refl _ _⟩
theorem sc_Len (g n c : Nat) (w : World) : Calls Tryz.prog 136 #[.slice (some ⟨g, 0, none⟩) n c] w (fun e w' => e = .returned (.int .i64 n) ∧ Below w.heap.size w w') := by
  go_enter Tryz.func136, Tryz.ntmps136
  go_wp2_with fail
  go_ret
  exact ⟨rfl, Below.refl _ _⟩
/-- sort.Sort over the letters. -/
theorem sortC_any (g n c base : Nat) (e : TypeId) (d : List (ByteArray × Nat)) (w : World) (hn : n ≤ 1048576) (hd : d.length = n) (ho : w.ownsRow base e 3 (.slice (some ⟨g, 0, none⟩) n c) n (flat encC d)) :
    Calls Tryz.prog 28 #[.iface 227 (.slice (some ⟨g, 0, none⟩) n c)] w (fun e' w' => e' = .returned (.tuple #[]) ∧ ∃ d' : List (ByteArray × Nat), d'.Perm d ∧ d'.Pairwise (fun x y => ltC y x = false) ∧ w'.ownsRow base e 3 (.slice (some ⟨g, 0, none⟩) n c) n (flat encC d') ∧ w.grownBy w' (some g)) :=
  sort_rows Tryz.laysGt11 (gn := 145) (gl := 146) (gs := 147) ⟨fun _ => by kernel_rfl, enters_of Tryz.func145 (by kernel_rfl) rfl⟩ ⟨fun _ => by kernel_rfl, enters_of Tryz.func146 (by kernel_rfl) rfl⟩ ⟨fun _ => by kernel_rfl, enters_of Tryz.func147 (by kernel_rfl) rfl⟩ ltC_swo (by omega) (cc_Len g n c)
    (fun d w hd ho i j hi hj => (ccLess_raw g n c i j d[i]!.1 d[j]!.1 d[i]!.2 d[j]!.2 w hi hj hn (row_cell encC_len hd ho (r := 0) hi (by decide)) (row_cell encC_len hd ho (r := 1) hi (by decide)) (row_cell encC_len hd ho (r := 2) hi (by decide)) (row_cell encC_len hd ho (r := 0) hj (by decide)) (row_cell encC_len hd ho (r := 1) hj (by decide)) (row_cell encC_len hd ho (r := 2) hj (by decide))))
    (fun d w hd ho i j hi hj => (ccSwap_raw g n c i j d[i]!.1 d[j]!.1 0 0 d[i]!.2 d[j]!.2 w hi hj hn (row_cell encC_len hd ho (r := 0) hi (by decide)) (row_cell encC_len hd ho (r := 0) hj (by decide)) (row_cell encC_len hd ho (r := 1) hi (by decide)) (row_cell encC_len hd ho (r := 1) hj (by decide)) (row_cell encC_len hd ho (r := 2) hi (by decide)) (row_cell encC_len hd ho (r := 2) hj (by decide)) (fun o => ho.frozenAt o)).mono fun _ _ ⟨he, hw⟩ => ⟨he, by rw [hw]; exact swap_rows encC_len hd ho hi hj⟩)
    d w hd ho
/-! The array of symbols: element i is symbol i, of count C i. -/
def encS (C : Nat → Int) (i : Nat) : List Value := [.int .u32 1, .int .u32 1, .int .u32 (i : Int), .int .u32 (C i)]
theorem encS_len (C : Nat → Int) : ∀ x, (encS C x).length = 4 := fun _ => rfl
def ltS (C : Nat → Int) (i j : Nat) : Bool := decide (C i > C j) || (decide (C i = C j) && decide (i < j))
theorem ltS_swo (C : Nat → Int) : Go.Sort.SWO (ltS C) where
  irrefl := fun x => by simp [ltS]
  trans := fun x y z => by simp only [ltS, Bool.or_eq_true, Bool.and_eq_true, decide_eq_true_eq]; omega
  ntrans := fun x y z => by simp only [ltS, Bool.or_eq_false_iff, Bool.and_eq_false_iff, decide_eq_false_iff_not]; omega
theorem sortS_any (C : Nat → Int) (g n c base : Nat) (e : TypeId) (d : List Nat) (w : World) (hn : n ≤ 1048576) (hd : d.length = n) (ho : w.ownsRow base e 4 (.slice (some ⟨g, 0, none⟩) n c) n (flat (encS C) d)) :
    Calls Tryz.prog 28 #[.iface 194 (.slice (some ⟨g, 0, none⟩) n c)] w (fun e' w' => e' = .returned (.tuple #[]) ∧ ∃ d' : List Nat, d'.Perm d ∧ d'.Pairwise (fun x y => ltS C y x = false) ∧ w'.ownsRow base e 4 (.slice (some ⟨g, 0, none⟩) n c) n (flat (encS C) d') ∧ w.grownBy w' (some g)) :=
  sort_rows Tryz.laysGt11 (gn := 136) (gl := 137) (gs := 138) ⟨fun _ => by kernel_rfl, enters_of Tryz.func136 (by kernel_rfl) rfl⟩ ⟨fun _ => by kernel_rfl, enters_of Tryz.func137 (by kernel_rfl) rfl⟩ ⟨fun _ => by kernel_rfl, enters_of Tryz.func138 (by kernel_rfl) rfl⟩ (ltS_swo C) (by omega) (sc_Len g n c)
    (fun d w hd ho i j hi hj => (scLess_raw g n c i j d[i]! d[j]! (C d[i]!) (C d[j]!) w hi hj hn (row_cell (encS_len C) hd ho (r := 0) hi (by decide)) (row_cell (encS_len C) hd ho (r := 1) hi (by decide)) (row_cell (encS_len C) hd ho (r := 2) hi (by decide)) (row_cell (encS_len C) hd ho (r := 3) hi (by decide)) (row_cell (encS_len C) hd ho (r := 0) hj (by decide)) (row_cell (encS_len C) hd ho (r := 1) hj (by decide)) (row_cell (encS_len C) hd ho (r := 2) hj (by decide)) (row_cell (encS_len C) hd ho (r := 3) hj (by decide))))
    (fun d w hd ho i j hi hj => (scSwap_raw g n c i j 1 1 1 1 d[i]! d[j]! (C d[i]!) (C d[j]!) w hi hj hn (row_cell (encS_len C) hd ho (r := 0) hi (by decide)) (row_cell (encS_len C) hd ho (r := 0) hj (by decide)) (row_cell (encS_len C) hd ho (r := 1) hi (by decide)) (row_cell (encS_len C) hd ho (r := 1) hj (by decide)) (row_cell (encS_len C) hd ho (r := 2) hi (by decide)) (row_cell (encS_len C) hd ho (r := 2) hj (by decide)) (row_cell (encS_len C) hd ho (r := 3) hi (by decide)) (row_cell (encS_len C) hd ho (r := 3) hj (by decide)) (fun o => ho.frozenAt o)).mono fun _ _ ⟨he, hw⟩ => ⟨he, by rw [hw]; exact swap_rows (encS_len C) hd ho hi hj⟩)
    d w hd ho
end Go.Proofs.YtokehapgddicjaaGreatFmt
