/- Terms turned to tokens, one by one. -/
import Derived.Test.YtlajoolgfhlmkaaGreatFmtProg
import Derived.Test.YtlajoolgfhlmkaaGreatFmtBase
import Derived.Laws.ResultCell
import Derived.Laws.Rows
namespace Go.Proofs.YtlajoolgfhlmkaaGreatFmt
open Go.RowKit
set_option linter.unusedVariables false

theorem results_row_tmp {P : Program} {fn : Func} {p u : Tmp} {ty : TypeId} (h : fn.results = #[.cell p ty, .tmp u]) (tmps : Array Value) (w : World) (g : Nat) (t : TypeId) (cs : Array Value) (fr : Nat × Nat) (d : TypeDesc)
    (hp : tmps.getD p undef = .pointer (some ⟨g, 0, none⟩)) (hg : w.heap[g]? = some (.cells cs t fr))
    (hu : P.underlying ty = some d) (hd : (match d with | .struct _ | .array _ _ => true | _ => false) = true) (hi : (P.info? ty).map (·.size) = some cs.size) :
    (results fn tmps).run P w = .ok (.tuple #[.agg cs, tmps.getD u undef]) w := by
  rw [results_cell_tmp h]
  have hp' : tmps[p]?.getD undef = .pointer (some ⟨g, 0, none⟩) := by simpa using hp
  simp [hp', asAddr, run_loadVar_row w g t ty cs fr d hg hu hd hi]

theorem two_first (w : World) (o1 o2 : Obj) : ((w.alloc o1).alloc o2).heap[w.heap.size]? = some o1 := by
  rw [heap_alloc_old _ _ (by simp)]
  exact heap_alloc_new _ _
theorem two_second (w : World) (o1 o2 : Obj) : ((w.alloc o1).alloc o2).heap[w.heap.size + 1]? = some o2 := by
  have := heap_alloc_new (w.alloc o1) o2
  simpa using this
/-- A token's cells: its kind, its text, its children, its whitespace. -/
abbrev tokR (kd : Int) (s : ByteArray) (ch : Value) (ws : Int) : Array Value := #[ch, .string s, .int .i32 0, .int .u32 0, .int .u16 0, .int .u8 kd, .int .u8 ws]
/-- The cells of a value term over an identifier. -/
abbrev valR (s : ByteArray) : Array Value := #[.pointer none, .string s, .int .i32 0, .int .u32 0, .int .u16 0, .int .u8 29, .int .u8 0, .bool false]

set_option maxRecDepth 100000 in
set_option maxHeartbeats 400000 in
theorem value_any (b : Nat) (s : ByteArray) (ws : Int) (w : World) (h : w.heap[b]? = some (.cells (valR s) 55 (0, 0))) :
    Calls Tryz.prog 105 #[.pointer (some ⟨b, 0, none⟩), .int .u8 ws] w fun e w' => e = .returned (.tuple #[.agg (tokR 29 s (.pointer none) 0), .bool true]) ∧ Below w.heap.size w w' := by
  have hb : b < w.heap.size := (Array.getElem?_eq_some_iff.1 h).1
  have d0 := cell_of_row _ _ 0 _ _ _ h
  have d1 := cell_of_row _ _ 1 _ _ _ h
  have d2 := cell_of_row _ _ 2 _ _ _ h
  have d3 := cell_of_row _ _ 3 _ _ _ h
  have d4 := cell_of_row _ _ 4 _ _ _ h
  have d5 := cell_of_row _ _ 5 _ _ _ h
  have d6 := cell_of_row _ _ 6 _ _ _ h
  simp at d0 d1 d2 d3 d4 d5 d6
  have H := Lib.hid h
  clear h
  go_enter Tryz.func105, Tryz.ntmps105
  go_wp2
  refine bodyPost_ret (results_row_tmp rfl _ _ w.heap.size 41 _ (0, 0) _ rfl (two_first _ _ _) Tryz.underlying41 rfl (by kernel_rfl)) rfl ⟨rfl, ?_⟩
  exact ((Below.refl _ _).alloc (Nat.le_refl _) _).alloc (by simp) _

abbrev posInf : Nat := 9218868437227405312
abbrev negInf : Nat := 18442240474082181120
theorem inf_mul : floatBits .mul .f64 9214871658872686752 4621819117588971520 = some posInf := by kernel_rfl
theorem run_frombits (n : Int) (w : World) : (callFunc 26 #[.int .u64 n]).run Tryz.prog w = .ok (.value (.float .f64 n.toNat)) w :=
  (run_callFunc_extern (e := Extern.MathFloatBits.float64frombits) Tryz.func26 (by kernel_rfl) (by kernel_rfl) (by kernel_rfl) (by kernel_rfl) _ w).trans rfl
theorem run_tobits (b : Nat) (w : World) : (callFunc 27 #[.float .f64 b]).run Tryz.prog w = .ok (.value (.int .u64 b)) w :=
  (run_callFunc_extern (e := Extern.MathFloatBits.float64bits) Tryz.func27 (by kernel_rfl) (by kernel_rfl) (by kernel_rfl) (by kernel_rfl) _ w).trans rfl
set_option maxRecDepth 100000 in
set_option maxHeartbeats 400000 in
theorem inf_any (w : World) : Calls Tryz.prog 7 #[] w fun e w' => e = .returned (.float .f64 posInf) ∧ w = w' := by
  have hmu := fun (ty : TypeId) (wx : World) => run_float_arith (P := Tryz.prog) wx .mul ty .f64 _ _ _ inf_mul
  go_enter Tryz.func7, Tryz.ntmps7
  go_wp2
  go_ret
  exact ⟨rfl, rfl⟩
def IsInf (f : Nat) : Prop := f = posInf ∨ f = negInf
set_option maxRecDepth 100000 in
set_option maxHeartbeats 400000 in
theorem isnan_any (f : Nat) (hf : IsInf f) (w : World) : Calls Tryz.prog 17 #[.float .f64 f] w fun e w' => e = .returned (.bool false) ∧ w = w' := by
  have e : (FloatKind.f64.format.order f f != some Ordering.eq) = false := by rcases hf with rfl | rfl <;> kernel_rfl
  clear hf
  go_enter Tryz.func17, Tryz.ntmps17
  go_wp2
  go_ret
  exact ⟨by first | rfl | (rw [e]; rfl), rfl⟩
set_option maxRecDepth 100000 in
set_option maxHeartbeats 400000 in
theorem abs_any (f : Nat) (hf : IsInf f) (w : World) : Calls Tryz.prog 22 #[.float .f64 f] w fun e w' => e = .returned (.float .f64 posInf) ∧ w = w' := by
  have t1 := fun (b : Nat) (wx : World) => run_tobits b wx
  have t2 := fun (n : Int) (wx : World) => run_frombits n wx
  rcases hf with rfl | rfl
  all_goals
    go_enter Tryz.func22, Tryz.ntmps22
    go_wp2
    go_ret
    exact ⟨rfl, rfl⟩
set_option maxRecDepth 100000 in
set_option maxHeartbeats 400000 in
theorem isinf_any (f : Nat) (hf : IsInf f) (w : World) : Calls Tryz.prog 18 #[.float .f64 f, .int .i64 0] w fun e w' => e = .returned (.bool true) ∧ w = w' := by
  have HA := Lib.hid (abs_any f hf)
  clear hf
  go_enter Tryz.func18, Tryz.ntmps18
  go_wp2_with (go_at_call 22; refine (HA.out _).mono ?_; rintro e w1 ⟨rfl, rfl⟩)
  go_ret
  exact ⟨rfl, rfl⟩
end Go.Proofs.YtlajoolgfhlmkaaGreatFmt
