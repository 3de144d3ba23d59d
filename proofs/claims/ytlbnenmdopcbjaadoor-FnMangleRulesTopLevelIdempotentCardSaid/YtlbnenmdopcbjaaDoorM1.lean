/- The makers of rules. -/
import Derived.Test.YtlbnenmdopcbjaaDoorProg
import Derived.Test.YtlbnenmdopcbjaaDoorBase
namespace Go.Proofs.YtlbnenmdopcbjaaDoor
open Go.RowKit

/-- The row of a known at-rule. -/
abbrev knownRow (s : ByteArray) (r : Value) : Array Value := #[.string s, .slice none 0 0, r, .int .i32 0]
/-- A made rule: an interface over a fresh block that holds the row. -/
def MadeRule (t T : TypeId) (row : Array Value) (l : Int) (w : World) (e : Ending) (w' : World) : Prop :=
  ∃ b, e = .returned (.agg #[.iface t (.pointer (some ⟨b, 0, none⟩)), .int .i32 l]) ∧ w'.heap[b]? = some (.cells row T (0, 0)) ∧ w.heap.size ≤ b ∧ Below w.heap.size w w'
theorem two_first (w : World) (o1 o2 : Obj) : ((w.alloc o1).alloc o2).heap[w.heap.size]? = some o1 := by
  rw [heap_alloc_old _ _ (by simp)]
  exact heap_alloc_new _ _
theorem two_second (w : World) (o1 o2 : Obj) : ((w.alloc o1).alloc o2).heap[w.heap.size + 1]? = some o2 := by
  have := heap_alloc_new (w.alloc o1) o2
  simpa using this

set_option maxRecDepth 100000 in
theorem comment_any (l : Int) (s : ByteArray) (w : World) : Calls Tryd.prog 11 #[.int .i32 l, .string s] w (MadeRule 86 88 #[.string s] l w) := by
  unfold MadeRule
  go_enter Tryd.func11, Tryd.ntmps11
  go_wp2
  refine bodyPost_ret (results_cell_row rfl _ _ w.heap.size 37 _ (0, 0) _ rfl (two_first _ _ _) Tryd.underlying37 rfl (by kernel_rfl)) rfl ⟨w.heap.size + 1, rfl, two_second _ _ _, by omega, ?_⟩
  exact ((Below.refl _ _).alloc (Nat.le_refl _) _).alloc (by simp) _

set_option maxRecDepth 100000 in
theorem known_any (l : Int) (s : ByteArray) (a : Option Addr) (n c : Nat) (w : World) : Calls Tryd.prog 12 #[.int .i32 l, .string s, .slice a n c] w (MadeRule 89 92 (knownRow s (.slice a n c)) l w) := by
  unfold MadeRule
  go_enter Tryd.func12, Tryd.ntmps12
  go_wp2
  refine bodyPost_ret (results_cell_row rfl _ _ w.heap.size 37 _ (0, 0) _ rfl (two_first _ _ _) Tryd.underlying37 rfl (by kernel_rfl)) rfl ⟨w.heap.size + 1, rfl, two_second _ _ _, by omega, ?_⟩
  exact ((Below.refl _ _).alloc (Nat.le_refl _) _).alloc (by simp) _

set_option maxRecDepth 100000 in
theorem selector_any (l : Int) (w : World) : Calls Tryd.prog 14 #[.int .i32 l, .slice none 0 0] w (MadeRule 93 96 #[.slice none 0 0, .slice none 0 0, .int .i32 0] l w) := by
  unfold MadeRule
  go_enter Tryd.func14, Tryd.ntmps14
  go_wp2
  refine bodyPost_ret (results_cell_row rfl _ _ w.heap.size 37 _ (0, 0) _ rfl (two_first _ _ _) Tryd.underlying37 rfl (by kernel_rfl)) rfl ⟨w.heap.size + 1, rfl, two_second _ _ _, by omega, ?_⟩
  exact ((Below.refl _ _).alloc (Nat.le_refl _) _).alloc (by simp) _

/-! Type assertions to a pointer type. -/
theorem ta_no {A T zt : TypeId} (hA : Tryd.prog.underlying A = some (.pointer zt)) (hne : T ≠ A) (hz : (Tryd.prog.info? A).map (·.zero) = some (some (.pointer none))) (v : Value) (w : World) :
    (Instr.typeAssert (.iface T v) 35 A true).run Tryd.prog w = .ok (.tuple #[.pointer none, .bool false]) w := by
  obtain ⟨j, hj, hz'⟩ := Option.map_eq_some_iff.1 hz
  simp [Instr.typeAssert, run_underlying hA, zeroValue, typeInfo, hj, hz', hne]
theorem ta_yes {A zt : TypeId} (hA : Tryd.prog.underlying A = some (.pointer zt)) (v : Value) (w : World) :
    (Instr.typeAssert (.iface A v) 35 A true).run Tryd.prog w = .ok (.tuple #[v, .bool true]) w := by
  simp [Instr.typeAssert, run_underlying hA]

/-- The names of at-rules. -/
def atName (t : Nat) : ByteArray := match t with
  | 0 => { data := #[112, 97, 103, 101] }
  | 1 => { data := #[115, 99, 111, 112, 101] }
  | 2 => { data := #[102, 111, 110, 116, 45, 102, 97, 99, 101] }
  | 3 => { data := #[116, 111, 112, 45, 108, 101, 102, 116] }
  | 4 => { data := #[102, 111, 110, 116, 45, 102, 101, 97, 116, 117, 114, 101, 45, 118, 97, 108, 117, 101, 115] }
  | 5 => { data := #[99, 111, 117, 110, 116, 101, 114, 45, 115, 116, 121, 108, 101] }
  | 6 => { data := #[118, 105, 101, 119, 112, 111, 114, 116] }
  | _ => { data := #[97, 110, 110, 111, 116, 97, 116, 105, 111, 110] }
set_option maxRecDepth 100000 in
theorem name_any (t : Nat) (w : World) (ht : t < 8) : Calls Tryd.prog 13 #[.int .u8 t] w fun e w' => e = .returned (.string (atName t)) ∧ w = w' := by
  have h8 : t = 0 ∨ t = 1 ∨ t = 2 ∨ t = 3 ∨ t = 4 ∨ t = 5 ∨ t = 6 ∨ t = 7 := by omega
  rcases h8 with rfl | rfl | rfl | rfl | rfl | rfl | rfl | rfl
  all_goals
    go_enter Tryd.func13, Tryd.ntmps13
    go_wp2
    go_ret
    exact ⟨rfl, rfl⟩

set_option maxRecDepth 100000 in
set_option maxHeartbeats 1000000 in
theorem parser_any (w : World) : Calls Tryd.prog 7 #[.slice none 0 0, .slice none 0 0, .bool true] w fun e w' => ∃ b, e = .returned (.pointer (some ⟨b, 0, none⟩)) ∧ Below w.heap.size w w' := by
  go_enter Tryd.func7, Tryd.ntmps7
  go_wp2
  go_ret
  exact ⟨w.heap.size, rfl, (Below.refl _ _).alloc (Nat.le_refl _) _⟩
end Go.Proofs.YtlbnenmdopcbjaaDoor
