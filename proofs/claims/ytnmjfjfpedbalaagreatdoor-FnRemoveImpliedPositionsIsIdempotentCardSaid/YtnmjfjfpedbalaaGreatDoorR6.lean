/- The words of floats: each a function of its operands' bits. -/
import Derived.Test.YtnmjfjfpedbalaaGreatDoorR5
import Derived.Deep.RegionHeld3
namespace Go.Proofs.YtnmjfjfpedbalaaGreatDoor
open Go.RowKit
set_option linter.unusedVariables false
set_option maxRecDepth 100000 in
set_option maxHeartbeats 400000 in
theorem fsub_any (x y q : Nat) (w : World) (h : floatBits .sub .f64 x y = some q) :
    Calls Tryz.prog 23 #[.agg #[.float .f64 x], .agg #[.float .f64 y]] w (fun e w' => e = .returned (.agg #[.float .f64 q]) ∧ Below w.heap.size w w') := by
  have hz : (((w.alloc (.cells #[.float .f64 x] 55)).alloc (.cells #[.float .f64 y] 55)).alloc (.cells #[.float .f64 0] 55)).heap[w.heap.size + 1 + 1]? = some (.cells #[.float .f64 0] 55 (0, 0)) := by
    have := heap_alloc_new ((w.alloc (.cells #[.float .f64 x] 55)).alloc (.cells #[.float .f64 y] 55)) (.cells #[.float .f64 0] 55)
    simpa using this
  have HZ := Lib.hid hz
  clear hz
  have hfl := fun wx => run_float_arith (P := Tryz.prog) wx .sub 53 .f64 x y q h
  go_enter Tryz.func23, Tryz.ntmps23
  go_wp2_with fail
  refine (newf_any q _).mono ?_
  rintro e w1 ⟨rfl, hb1⟩
  have hb3 := (((Below.refl w.heap.size w).alloc (Nat.le_refl _) (.cells #[.float .f64 x] 55)).alloc (by simp) (.cells #[.float .f64 y] 55)).alloc (by simp; omega) (.cells #[.float .f64 0] 55)
  have H1 := Lib.hid (And.intro ((hb1.block _ (by simp)).trans HZ.out) (hb3.trans (hb1.mono (by simp; omega))))
  clear hb1 hb3
  go_wp2_with (refine wpList_store_row rfl 55 _ _ rfl (w.heap.size + 1 + 1) _ rfl rfl 55 _ H1.out.1 (by kernel_rfl) rfl (by kernel_rfl) ?_)
  have hJ := setRow_heap _ (w.heap.size + 1 + 1) _ #[.float .f64 q] 55 (0, 0) H1.out.1
  exact bodyPost_ret (results_cell_row rfl _ _ (w.heap.size + 1 + 1) 55 _ (0, 0) _ rfl hJ Tryz.underlying55 rfl (by kernel_rfl)) rfl ⟨rfl, below_setRow H1.out.2 (by omega) _⟩
set_option maxRecDepth 100000 in
set_option maxHeartbeats 400000 in
theorem fmul_any (x y q : Nat) (w : World) (h : floatBits .mul .f64 x y = some q) :
    Calls Tryz.prog 36 #[.agg #[.float .f64 x], .agg #[.float .f64 y]] w (fun e w' => e = .returned (.agg #[.float .f64 q]) ∧ Below w.heap.size w w') := by
  have hz : (((w.alloc (.cells #[.float .f64 x] 55)).alloc (.cells #[.float .f64 y] 55)).alloc (.cells #[.float .f64 0] 55)).heap[w.heap.size + 1 + 1]? = some (.cells #[.float .f64 0] 55 (0, 0)) := by
    have := heap_alloc_new ((w.alloc (.cells #[.float .f64 x] 55)).alloc (.cells #[.float .f64 y] 55)) (.cells #[.float .f64 0] 55)
    simpa using this
  have HZ := Lib.hid hz
  clear hz
  have hfl := fun wx => run_float_arith (P := Tryz.prog) wx .mul 53 .f64 x y q h
  go_enter Tryz.func36, Tryz.ntmps36
  go_wp2_with fail
  refine (newf_any q _).mono ?_
  rintro e w1 ⟨rfl, hb1⟩
  have hb3 := (((Below.refl w.heap.size w).alloc (Nat.le_refl _) (.cells #[.float .f64 x] 55)).alloc (by simp) (.cells #[.float .f64 y] 55)).alloc (by simp; omega) (.cells #[.float .f64 0] 55)
  have H1 := Lib.hid (And.intro ((hb1.block _ (by simp)).trans HZ.out) (hb3.trans (hb1.mono (by simp; omega))))
  clear hb1 hb3
  go_wp2_with (refine wpList_store_row rfl 55 _ _ rfl (w.heap.size + 1 + 1) _ rfl rfl 55 _ H1.out.1 (by kernel_rfl) rfl (by kernel_rfl) ?_)
  have hJ := setRow_heap _ (w.heap.size + 1 + 1) _ #[.float .f64 q] 55 (0, 0) H1.out.1
  exact bodyPost_ret (results_cell_row rfl _ _ (w.heap.size + 1 + 1) 55 _ (0, 0) _ rfl hJ Tryz.underlying55 rfl (by kernel_rfl)) rfl ⟨rfl, below_setRow H1.out.2 (by omega) _⟩
set_option maxRecDepth 100000 in
set_option maxHeartbeats 400000 in
theorem fadd_any (x y q : Nat) (w : World) (h : floatBits .add .f64 x y = some q) :
    Calls Tryz.prog 37 #[.agg #[.float .f64 x], .agg #[.float .f64 y]] w (fun e w' => e = .returned (.agg #[.float .f64 q]) ∧ Below w.heap.size w w') := by
  have hz : (((w.alloc (.cells #[.float .f64 x] 55)).alloc (.cells #[.float .f64 y] 55)).alloc (.cells #[.float .f64 0] 55)).heap[w.heap.size + 1 + 1]? = some (.cells #[.float .f64 0] 55 (0, 0)) := by
    have := heap_alloc_new ((w.alloc (.cells #[.float .f64 x] 55)).alloc (.cells #[.float .f64 y] 55)) (.cells #[.float .f64 0] 55)
    simpa using this
  have HZ := Lib.hid hz
  clear hz
  have hfl := fun wx => run_float_arith (P := Tryz.prog) wx .add 53 .f64 x y q h
  go_enter Tryz.func37, Tryz.ntmps37
  go_wp2_with fail
  refine (newf_any q _).mono ?_
  rintro e w1 ⟨rfl, hb1⟩
  have hb3 := (((Below.refl w.heap.size w).alloc (Nat.le_refl _) (.cells #[.float .f64 x] 55)).alloc (by simp) (.cells #[.float .f64 y] 55)).alloc (by simp; omega) (.cells #[.float .f64 0] 55)
  have H1 := Lib.hid (And.intro ((hb1.block _ (by simp)).trans HZ.out) (hb3.trans (hb1.mono (by simp; omega))))
  clear hb1 hb3
  go_wp2_with (refine wpList_store_row rfl 55 _ _ rfl (w.heap.size + 1 + 1) _ rfl rfl 55 _ H1.out.1 (by kernel_rfl) rfl (by kernel_rfl) ?_)
  have hJ := setRow_heap _ (w.heap.size + 1 + 1) _ #[.float .f64 q] 55 (0, 0) H1.out.1
  exact bodyPost_ret (results_cell_row rfl _ _ (w.heap.size + 1 + 1) 55 _ (0, 0) _ rfl hJ Tryz.underlying55 rfl (by kernel_rfl)) rfl ⟨rfl, below_setRow H1.out.2 (by omega) _⟩
set_option maxRecDepth 100000 in
set_option maxHeartbeats 400000 in
theorem fdiv_any (x y q : Nat) (w : World) (h : floatBits .quo .f64 x y = some q) :
    Calls Tryz.prog 21 #[.agg #[.float .f64 x], .float .f64 y] w (fun e w' => e = .returned (.agg #[.float .f64 q]) ∧ Below w.heap.size w w') := by
  have hz : ((w.alloc (.cells #[.float .f64 x] 55)).alloc (.cells #[.float .f64 0] 55)).heap[w.heap.size + 1]? = some (.cells #[.float .f64 0] 55 (0, 0)) := by
    have := heap_alloc_new (w.alloc (.cells #[.float .f64 x] 55)) (.cells #[.float .f64 0] 55)
    simpa using this
  have HZ := Lib.hid hz
  clear hz
  have hfl := fun wx => run_float_arith (P := Tryz.prog) wx .quo 53 .f64 x y q h
  go_enter Tryz.func21, Tryz.ntmps21
  go_wp2_with fail
  refine (newf_any q _).mono ?_
  rintro e w1 ⟨rfl, hb1⟩
  have hb3 := ((Below.refl w.heap.size w).alloc (Nat.le_refl _) (.cells #[.float .f64 x] 55)).alloc (by simp) (.cells #[.float .f64 0] 55)
  have H1 := Lib.hid (And.intro ((hb1.block _ (by simp)).trans HZ.out) (hb3.trans (hb1.mono (by simp; omega))))
  clear hb1 hb3
  go_wp2_with (refine wpList_store_row rfl 55 _ _ rfl (w.heap.size + 1) _ rfl rfl 55 _ H1.out.1 (by kernel_rfl) rfl (by kernel_rfl) ?_)
  have hJ := setRow_heap _ (w.heap.size + 1) _ #[.float .f64 q] 55 (0, 0) H1.out.1
  exact bodyPost_ret (results_cell_row rfl _ _ (w.heap.size + 1) 55 _ (0, 0) _ rfl hJ Tryz.underlying55 rfl (by kernel_rfl)) rfl ⟨rfl, below_setRow H1.out.2 (by omega) _⟩
set_option maxRecDepth 100000 in
set_option maxHeartbeats 400000 in
theorem fval_any (x : Nat) (w : World) : Calls Tryz.prog 25 #[.agg #[.float .f64 x]] w (fun e w' => e = .returned (.float .f64 x) ∧ Below w.heap.size w w') := by
  go_enter Tryz.func25, Tryz.ntmps25
  go_wp2_with fail
  go_ret
  exact ⟨rfl, (Below.refl _ _).alloc (Nat.le_refl _) _⟩
set_option maxRecDepth 100000 in
set_option maxHeartbeats 400000 in
theorem fnan_any (x : Nat) (w : World) : Calls Tryz.prog 20 #[.agg #[.float .f64 x]] w (fun e w' => e = .returned (.bool (FloatKind.f64.format.order x x != some Ordering.eq)) ∧ Below w.heap.size w w') := by
  go_enter Tryz.func20, Tryz.ntmps20
  go_wp2_with (go_at_call 35; go_in)
  go_ret
  exact ⟨rfl, (Below.refl _ _).alloc (Nat.le_refl _) _⟩
set_option maxRecDepth 100000 in
set_option maxHeartbeats 400000 in
theorem run_frombits2 (n : Int) (w : World) : (callFunc 34 #[.int .u64 n]).run Tryz.prog w = .ok (.value (.float .f64 n.toNat)) w :=
  (run_callFunc_extern (e := Extern.MathFloatBits.float64frombits) Tryz.func34 (by kernel_rfl) (by kernel_rfl) (by kernel_rfl) (by kernel_rfl) _ w).trans rfl
theorem run_tobits (n : Nat) (w : World) : (callFunc 41 #[.float .f64 n]).run Tryz.prog w = .ok (.value (.int .u64 n)) w :=
  (run_callFunc_extern (e := Extern.MathFloatBits.float64bits) Tryz.func41 (by kernel_rfl) (by kernel_rfl) (by kernel_rfl) (by kernel_rfl) _ w).trans rfl
theorem nan_any (w : World) : Calls Tryz.prog 19 #[] w (fun e w' => e = .returned (.float .f64 9221120237041090561) ∧ w' = w) := by
  have h1 := run_frombits2 9221120237041090561 w
  go_enter Tryz.func19, Tryz.ntmps19
  go_wp2_with fail
  go_ret
  exact ⟨rfl, rfl⟩
set_option maxRecDepth 100000 in
set_option maxHeartbeats 400000 in
theorem fabs_any (x : Nat) (w : World) : Calls Tryz.prog 24 #[.agg #[.float .f64 x]] w (fun e w' => e = .returned (.agg #[.float .f64 (bits BinOp.andNot IntKind.u64 (x : Int) 9223372036854775808).toNat]) ∧ Below w.heap.size w w') := by
  have hz : ((w.alloc (.cells #[.float .f64 x] 55)).alloc (.cells #[.float .f64 0] 55)).heap[w.heap.size + 1]? = some (.cells #[.float .f64 0] 55 (0, 0)) := by
    have := heap_alloc_new (w.alloc (.cells #[.float .f64 x] 55)) (.cells #[.float .f64 0] 55)
    simpa using this
  have HZ := Lib.hid hz
  clear hz
  have h1 := fun wx => run_tobits x wx
  have h2 := fun n wx => run_frombits2 n wx
  go_enter Tryz.func24, Tryz.ntmps24
  go_wp2_with (go_at_call 38; go_in)
  refine (newf_any _ _).mono ?_
  rintro e w1 ⟨rfl, hb1⟩
  generalize hq : (bits BinOp.andNot IntKind.u64 (x : Int) 9223372036854775808).toNat = q at *
  have hb3 := ((Below.refl w.heap.size w).alloc (Nat.le_refl _) (.cells #[.float .f64 x] 55)).alloc (by simp) (.cells #[.float .f64 0] 55)
  have H1 := Lib.hid (And.intro ((hb1.block _ (by simp)).trans HZ.out) (hb3.trans (hb1.mono (by simp; omega))))
  clear hb1 hb3 h1 h2
  go_wp2_with (refine wpList_store_row rfl 55 _ _ rfl (w.heap.size + 1) _ rfl rfl 55 _ H1.out.1 (by kernel_rfl) rfl (by kernel_rfl) ?_)
  have hJ := setRow_heap _ (w.heap.size + 1) _ #[.float .f64 q] 55 (0, 0) H1.out.1
  exact bodyPost_ret (results_cell_row rfl _ _ (w.heap.size + 1) 55 _ (0, 0) _ rfl hJ Tryz.underlying55 rfl (by kernel_rfl)) rfl ⟨by rw [hq], below_setRow H1.out.2 (by omega) _⟩
/-- What holds all through Lerp's one region. -/
def LS (w : World) (a b t : Nat) (w' : World) : Prop := Below w.heap.size w w' ∧ w'.heap[w.heap.size]? = some (.cells #[.float .f64 a] 55 (0, 0)) ∧ w'.heap[w.heap.size + 1]? = some (.cells #[.float .f64 b] 55 (0, 0)) ∧ w'.heap[w.heap.size + 1 + 1]? = some (.cells #[.float .f64 t] 55 (0, 0)) ∧ ∃ x, w'.heap[w.heap.size + 1 + 1 + 1]? = some (.cells #[.float .f64 x] 55 (0, 0))
theorem LS.call {w : World} {a b t : Nat} {w1 w2 : World} (h : LS w a b t w1) (hb : Below w1.heap.size w1 w2) : LS w a b t w2 := by
  obtain ⟨h1, h2, h3, h4, x, h5⟩ := h
  have k := fun (k : Nat) (o : Obj) (h : w1.heap[k]? = some o) => (hb.block k (Array.getElem?_eq_some_iff.1 h).1).trans h
  exact ⟨h1.trans (hb.mono h1.size), k _ _ h2, k _ _ h3, k _ _ h4, x, k _ _ h5⟩
theorem LS.drew {w : World} {a b t : Nat} {w1 : World} (h : LS w a b t w1) : LS w a b t w1.drew := ⟨h.1.drew, h.2⟩
theorem LS.cells {w : World} {a b t : Nat} {w1 : World} (h : LS w a b t w1) : w1.cell? ⟨w.heap.size, 0, none⟩ = some (.float .f64 a) ∧ w1.cell? ⟨w.heap.size + 1, 0, none⟩ = some (.float .f64 b) ∧ w1.cell? ⟨w.heap.size + 1 + 1, 0, none⟩ = some (.float .f64 t) :=
  ⟨cell_of_row _ _ 0 _ _ _ h.2.1, cell_of_row _ _ 0 _ _ _ h.2.2.1, cell_of_row _ _ 0 _ _ _ h.2.2.2.1⟩
theorem LS.set {w : World} {a b t : Nat} {w1 : World} (h : LS w a b t w1) (v : Nat) : LS w a b t (w1.setCell ⟨w.heap.size + 1 + 1 + 1, 0, none⟩ (.float .f64 v)) := by
  obtain ⟨h1, h2, h3, h4, x, h5⟩ := h
  have k := fun (k : Nat) (hk : k ≠ w.heap.size + 1 + 1 + 1) => heap_setCell_other w1 ⟨w.heap.size + 1 + 1 + 1, 0, none⟩ k (.float .f64 v) hk
  exact ⟨h1.setCell (by simp; omega) _, (k _ (by omega)).trans h2, (k _ (by omega)).trans h3, (k _ (by omega)).trans h4, v, setCell_row h5⟩
theorem LS.row {w : World} {a b t : Nat} {w1 : World} (h : LS w a b t w1) : ∃ x, w1.heap[w.heap.size + 1 + 1 + 1]? = some (.cells #[.float .f64 x] 55 (0, 0)) := h.2.2.2.2
/-- The same with the cells told. -/
def LT (w : World) (a b t : Nat) (w1 : World) : Prop := LS w a b t w1 ∧ w1.cell? ⟨w.heap.size, 0, none⟩ = some (.float .f64 a) ∧ w1.cell? ⟨w.heap.size + 1, 0, none⟩ = some (.float .f64 b) ∧ w1.cell? ⟨w.heap.size + 1 + 1, 0, none⟩ = some (.float .f64 t)
theorem lt_drew {w : World} {a b t : Nat} {w1 : World} (h : LS w a b t w1 ∧ w1.cell? ⟨w.heap.size, 0, none⟩ = some (.float .f64 a) ∧ w1.cell? ⟨w.heap.size + 1, 0, none⟩ = some (.float .f64 b) ∧ w1.cell? ⟨w.heap.size + 1 + 1, 0, none⟩ = some (.float .f64 t)) : LT w a b t w1.drew := ⟨h.1.drew, h.1.drew.cells⟩
theorem lt_call {w : World} {a b t : Nat} {w1 w2 : World} (h : LS w a b t w1 ∧ w1.cell? ⟨w.heap.size, 0, none⟩ = some (.float .f64 a) ∧ w1.cell? ⟨w.heap.size + 1, 0, none⟩ = some (.float .f64 b) ∧ w1.cell? ⟨w.heap.size + 1 + 1, 0, none⟩ = some (.float .f64 t)) (hb : Below w1.heap.size w1 w2) : LT w a b t w2 := ⟨h.1.call hb, (h.1.call hb).cells⟩
set_option maxRecDepth 100000 in
set_option maxHeartbeats 1000000 in
/-- Lerp, by its three steps. -/
theorem lerp_any (a b t d m l : Nat) (w : World) (h1 : floatBits .sub .f64 b a = some d) (h2 : floatBits .mul .f64 d t = some m) (h3 : floatBits .add .f64 m a = some l) :
    Calls Tryz.prog 22 #[.agg #[.float .f64 a], .agg #[.float .f64 b], .agg #[.float .f64 t]] w (fun e w' => e = .returned (.agg #[.float .f64 l]) ∧ Below w.heap.size w w') := by
  have e0 : LS w a b t ((((w.alloc (.cells #[.float .f64 a] 55)).alloc (.cells #[.float .f64 b] 55)).alloc (.cells #[.float .f64 t] 55)).alloc (.cells #[.float .f64 0] 55)) := by
    have k0 := heap_alloc_new w (.cells #[.float .f64 a] 55)
    have k1 := heap_alloc_new (w.alloc (.cells #[.float .f64 a] 55)) (.cells #[.float .f64 b] 55)
    have k2 := heap_alloc_new ((w.alloc (.cells #[.float .f64 a] 55)).alloc (.cells #[.float .f64 b] 55)) (.cells #[.float .f64 t] 55)
    have k3 := heap_alloc_new (((w.alloc (.cells #[.float .f64 a] 55)).alloc (.cells #[.float .f64 b] 55)).alloc (.cells #[.float .f64 t] 55)) (.cells #[.float .f64 0] 55)
    rw [show (w.alloc (.cells #[.float .f64 a] 55)).heap.size = w.heap.size + 1 by simp] at k1
    rw [show ((w.alloc (.cells #[.float .f64 a] 55)).alloc (.cells #[.float .f64 b] 55)).heap.size = w.heap.size + 1 + 1 by simp] at k2
    rw [show (((w.alloc (.cells #[.float .f64 a] 55)).alloc (.cells #[.float .f64 b] 55)).alloc (.cells #[.float .f64 t] 55)).heap.size = w.heap.size + 1 + 1 + 1 by simp] at k3
    refine ⟨((((Below.refl _ _).alloc (Nat.le_refl _) _).alloc (by simp) _).alloc (by simp; omega) _).alloc (by simp; omega) _, ?_, ?_, ?_, 0, k3⟩
    · rw [heap_alloc_old _ _ (by simp <;> omega), heap_alloc_old _ _ (by simp <;> omega), heap_alloc_old _ _ (by simp <;> omega)]; exact k0
    · rw [heap_alloc_old _ _ (by simp <;> omega), heap_alloc_old _ _ (by simp <;> omega)]; exact k1
    · rw [heap_alloc_old _ _ (by simp)]; exact k2
  have E0 := Lib.hid e0
  clear e0
  go_enter Tryz.func22, Tryz.ntmps22
  go_wp2_with fail
  go_region_held3 (fun w' => LS w a b t w' ∧ w'.cell? ⟨w.heap.size, 0, none⟩ = some (.float .f64 a) ∧ w'.cell? ⟨w.heap.size + 1, 0, none⟩ = some (.float .f64 b) ∧ w'.cell? ⟨w.heap.size + 1 + 1, 0, none⟩ = some (.float .f64 t)) (first | exact ⟨(hls.1.set l), (hls.1.set l).cells⟩ | exact ⟨E0.out.drew, E0.out.drew.cells⟩ | exact lt_drew (by assumption) | exact lt_call (by assumption) (by assumption) | assumption) (first | (go_at_call 23; refine (fsub_any b a d _ h1).mono ?_; rintro e w2 ⟨rfl, hb2⟩) | (go_at_call 36; refine (fmul_any d t m _ h2).mono ?_; rintro e w3 ⟨rfl, hb3⟩) | (go_at_call 37; refine (fadd_any m a l _ h3).mono ?_; rintro e w4 ⟨rfl, hb4⟩; have hls := lt_call (by assumption) hb4; obtain ⟨x, hx⟩ := hls.1.row; have c9 := cell_of_row _ _ 0 _ _ _ hx; have f9 := frozen_of_row _ _ 0 _ _ hx; simp only [List.getElem?_toArray, List.getElem?_cons_zero] at c9; have hst := fun (ad : Addr) (md : Mode) (wx : World) => run_store (P := Tryz.prog) wx ad (.float .f64 l) md rfl))
  have hJ := setCell_row (i := 0) (v := .float .f64 l) hx
  have hbl := (hls.1.set l).1
  go_wp2_with fail
  exact bodyPost_ret (results_cell_row rfl _ _ (w.heap.size + 1 + 1 + 1) 55 _ (0, 0) _ rfl hJ Tryz.underlying55 rfl (by kernel_rfl)) rfl ⟨rfl, hbl⟩
end Go.Proofs.YtnmjfjfpedbalaaGreatDoor
