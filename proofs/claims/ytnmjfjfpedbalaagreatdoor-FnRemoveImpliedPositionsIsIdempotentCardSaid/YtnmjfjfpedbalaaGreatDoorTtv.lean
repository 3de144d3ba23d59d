/- tryToParseValue over percentages and dimensions whose number parses. -/
import Derived.Test.YtnmjfjfpedbalaaGreatDoorR2
import Derived.Test.YtnmjfjfpedbalaaGreatDoorParseFrac
namespace Go.Proofs.YtnmjfjfpedbalaaGreatDoor
open Go.RowKit
set_option linter.unusedVariables false

theorem results_row_tmp {P : Program} {fn : Func} {p u : Tmp} {ty : TypeId} (h : fn.results = #[.cell p ty, .tmp u]) (tmps : Array Value) (w : World) (g : Nat) (t : TypeId) (cs : Array Value) (fr : Nat × Nat) (d : TypeDesc)
    (hp : tmps.getD p undef = .pointer (some ⟨g, 0, none⟩)) (hg : w.heap[g]? = some (.cells cs t fr))
    (hu : P.underlying ty = some d) (hd : (match d with | .struct _ | .array _ _ => true | _ => false) = true) (hi : (P.info? ty).map (·.size) = some cs.size) :
    (results fn tmps).run P w = .ok (.tuple #[.agg cs, tmps.getD u undef]) w := by
  rw [results_cell_tmp h]
  have hp' : tmps[p]?.getD undef = .pointer (some ⟨g, 0, none⟩) := by simpa using hp
  simp [hp', asAddr, run_loadVar_row w g t ty cs fr d hg hu hd hi]
/-- ParseFloat takes the text t and answers r. -/
def Parses (t : ByteArray) (r : Nat) : Prop := ∀ wx, PowVars wx → Calls Tryz.prog 32 #[.string t, .int .i64 64] wx fun e w' => e = .returned (.tuple #[.float .f64 r, .nilIface]) ∧ wx = w'
/-- What tryToParseValue gives: a value and a unit. -/
def Got (r : Nat) (u : ByteArray) (ok : Bool) (w : World) (e : Ending) (w' : World) : Prop := e = .returned (.tuple #[.agg #[.string u, .float .f64 r], .bool ok]) ∧ Below w.heap.size w w'

set_option maxRecDepth 100000 in
set_option maxHeartbeats 4000000 in
theorem ttv_pct (t s : ByteArray) (r : Nat) (kind loc o : Int) (w : World) (h : Parses t r) (hv : PowVars w) (h1 : s.extract 0 (s.size - 1) = t) (h0 : 0 < s.size) (hs : s.size ≤ 100000) :
    Calls Tryz.prog 17 #[tokU 34 s loc o, .int .u8 kind] w (Got r { data := #[37] } true w) := by
  have HP := Lib.hid h
  have HV := Lib.hid hv
  clear h hv
  by_cases hk : kind = 2
  · subst hk
    go_enter Tryz.func17, Tryz.ntmps17
    go_wp2_with (first | (go_at_call 26; go_in) | (go_at_call 32; refine (HP.out _ (HV.out.below ((((Below.refl _ _).alloc (Nat.le_refl _) _).alloc (by simp) _).alloc (by simp; omega) _))).mono ?_; rintro e w1 ⟨rfl, rfl⟩) | fail)
    refine (newf_any r _).mono ?_
    rintro e w1 ⟨rfl, hb1⟩
    have hrow : w1.heap[w.heap.size + 1]? = some (.cells #[.string { data := #[] }, .float .f64 0] 57 (0, 0)) := by
      have e := heap_alloc_new (w.alloc (.cells #[.pointer none, .string s, .int .i32 loc, .int .u32 0, .int .u16 o, .int .u8 34, .int .u8 0] 37)) (.cells #[.string { data := #[] }, .float .f64 0] 57)
      rw [show (w.alloc (.cells #[.pointer none, .string s, .int .i32 loc, .int .u32 0, .int .u16 o, .int .u8 34, .int .u8 0] 37)).heap.size = w.heap.size + 1 by simp] at e
      rw [hb1.block _ (by simp), heap_alloc_old _ _ (by simp)]
      exact e
    have hB : Below w.heap.size w w1 := ((((Below.refl _ _).alloc (Nat.le_refl _) _).alloc (by simp) _).alloc (by simp; omega) _).trans (hb1.mono (by simp; omega))
    have hlt : w.heap.size + 1 < w1.heap.size := by
      have := hb1.size
      simp at this
      omega
    have H1 := Lib.hid (And.intro hrow (And.intro hB hlt))
    clear hrow hB hb1 hlt
    have c0 := cell_of_row _ _ 0 _ _ _ H1.out.1
    have c1 := cell_of_row _ _ 1 _ _ _ H1.out.1
    have f1 : ∀ j, w1.frozen? ⟨w.heap.size + 1, j, none⟩ = false := fun j => by simp [World.frozen?, H1.out.1]
    simp at c0 c1
    have hst := fun (a : Addr) (md : Mode) (wx : World) => run_store (P := Tryz.prog) wx a (.float .f64 r) md rfl
    go_wp2
    have hend := setCell_row (i := 0) (v := .string { data := #[37] }) (setCell_row (i := 1) (v := .float .f64 r) H1.out.1)
    refine bodyPost_ret (results_row_tmp rfl _ _ (w.heap.size + 1) 57 _ (0, 0) _ rfl hend Tryz.underlying57 rfl (by kernel_rfl)) rfl ⟨rfl, ?_⟩
    exact (H1.out.2.1.setCell (by simp) _).setCell (by simp) _
  · go_enter Tryz.func17, Tryz.ntmps17
    go_wp2_with (first | (go_at_call 26; go_in) | (go_at_call 32; refine (HP.out _ (HV.out.below ((((Below.refl _ _).alloc (Nat.le_refl _) _).alloc (by simp) _).alloc (by simp; omega) _))).mono ?_; rintro e w1 ⟨rfl, rfl⟩) | fail)
    refine (newf_any r _).mono ?_
    rintro e w1 ⟨rfl, hb1⟩
    have hrow : w1.heap[w.heap.size + 1]? = some (.cells #[.string { data := #[] }, .float .f64 0] 57 (0, 0)) := by
      have e := heap_alloc_new (w.alloc (.cells #[.pointer none, .string s, .int .i32 loc, .int .u32 0, .int .u16 o, .int .u8 34, .int .u8 0] 37)) (.cells #[.string { data := #[] }, .float .f64 0] 57)
      rw [show (w.alloc (.cells #[.pointer none, .string s, .int .i32 loc, .int .u32 0, .int .u16 o, .int .u8 34, .int .u8 0] 37)).heap.size = w.heap.size + 1 by simp] at e
      rw [hb1.block _ (by simp), heap_alloc_old _ _ (by simp)]
      exact e
    have hB : Below w.heap.size w w1 := ((((Below.refl _ _).alloc (Nat.le_refl _) _).alloc (by simp) _).alloc (by simp; omega) _).trans (hb1.mono (by simp; omega))
    have hlt : w.heap.size + 1 < w1.heap.size := by
      have := hb1.size
      simp at this
      omega
    have H1 := Lib.hid (And.intro hrow (And.intro hB hlt))
    clear hrow hB hb1 hlt
    have c0 := cell_of_row _ _ 0 _ _ _ H1.out.1
    have c1 := cell_of_row _ _ 1 _ _ _ H1.out.1
    have f1 : ∀ j, w1.frozen? ⟨w.heap.size + 1, j, none⟩ = false := fun j => by simp [World.frozen?, H1.out.1]
    simp at c0 c1
    have hst := fun (a : Addr) (md : Mode) (wx : World) => run_store (P := Tryz.prog) wx a (.float .f64 r) md rfl
    go_wp2
    have hend := setCell_row (i := 0) (v := .string { data := #[37] }) (setCell_row (i := 1) (v := .float .f64 r) H1.out.1)
    refine bodyPost_ret (results_row_tmp rfl _ _ (w.heap.size + 1) 57 _ (0, 0) _ rfl hend Tryz.underlying57 rfl (by kernel_rfl)) rfl ⟨rfl, ?_⟩
    exact (H1.out.2.1.setCell (by simp) _).setCell (by simp) _

set_option maxRecDepth 100000 in
theorem unit_any (s u : ByteArray) (o : Nat) (k loc : Int) (w : World) (h : s.extract o s.size = u) (ho : o ≤ s.size) : Calls Tryz.prog 33 #[tokU k s loc o] w fun e w' => e = .returned (.string u) ∧ Below w.heap.size w w' := by
  go_enter Tryz.func33, Tryz.ntmps33
  go_wp2
  go_ret
  exact ⟨rfl, (Below.refl _ _).alloc (Nat.le_refl _) _⟩

set_option maxRecDepth 100000 in
set_option maxHeartbeats 4000000 in
theorem ttv_dim (t u s : ByteArray) (r o : Nat) (kind loc : Int) (w : World) (h : Parses t r) (hv : PowVars w) (h1 : s.extract 0 o = t) (h2 : s.extract o s.size = u) (ho : o ≤ s.size) (hs : s.size ≤ 100000) (hk : ¬ kind = 2) :
    Calls Tryz.prog 17 #[tokU 26 s loc o, .int .u8 kind] w (Got r u true w) := by
  have HP := Lib.hid h
  have HV := Lib.hid hv
  clear h hv
  go_enter Tryz.func17, Tryz.ntmps17
  go_wp2_with (first | (go_at_call 27; go_in) | (go_at_call 32; refine (HP.out _ (HV.out.below ((((Below.refl _ _).alloc (Nat.le_refl _) _).alloc (by simp) _).alloc (by simp; omega) _))).mono ?_; rintro e w1 ⟨rfl, rfl⟩) | fail)
  refine (newf_any r _).mono ?_
  rintro e w1 ⟨rfl, hb1⟩
  have hrow : w1.heap[w.heap.size + 1]? = some (.cells #[.string { data := #[] }, .float .f64 0] 57 (0, 0)) := by
    have e := heap_alloc_new (w.alloc (.cells #[.pointer none, .string s, .int .i32 loc, .int .u32 0, .int .u16 o, .int .u8 26, .int .u8 0] 37)) (.cells #[.string { data := #[] }, .float .f64 0] 57)
    rw [show (w.alloc (.cells #[.pointer none, .string s, .int .i32 loc, .int .u32 0, .int .u16 o, .int .u8 26, .int .u8 0] 37)).heap.size = w.heap.size + 1 by simp] at e
    rw [hb1.block _ (by simp), heap_alloc_old _ _ (by simp)]
    exact e
  have htok : w1.heap[w.heap.size]? = some (.cells #[.pointer none, .string s, .int .i32 loc, .int .u32 0, .int .u16 o, .int .u8 26, .int .u8 0] 37 (0, 0)) := by
    have e := heap_alloc_new w (.cells #[.pointer none, .string s, .int .i32 loc, .int .u32 0, .int .u16 o, .int .u8 26, .int .u8 0] 37)
    rw [hb1.block _ (by simp; omega), heap_alloc_old _ _ (by simp; omega), heap_alloc_old _ _ (by simp)]
    exact e
  have hB : Below w.heap.size w w1 := ((((Below.refl _ _).alloc (Nat.le_refl _) _).alloc (by simp) _).alloc (by simp; omega) _).trans (hb1.mono (by simp; omega))
  have hlt : w.heap.size + 1 < w1.heap.size := by
    have := hb1.size
    simp at this
    omega
  have H1 := Lib.hid (And.intro hrow (And.intro hB hlt))
  have HT := Lib.hid htok
  clear htok hrow hB hb1 hlt
  have c0 := cell_of_row _ _ 0 _ _ _ H1.out.1
  have c1 := cell_of_row _ _ 1 _ _ _ H1.out.1
  have f1 : ∀ j, w1.frozen? ⟨w.heap.size + 1, j, none⟩ = false := fun j => by simp [World.frozen?, H1.out.1]
  have t0 := cell_of_row _ _ 0 _ _ _ HT.out
  have t1 := cell_of_row _ _ 1 _ _ _ HT.out
  have t2 := cell_of_row _ _ 2 _ _ _ HT.out
  have t3 := cell_of_row _ _ 3 _ _ _ HT.out
  have t4 := cell_of_row _ _ 4 _ _ _ HT.out
  have t5 := cell_of_row _ _ 5 _ _ _ HT.out
  have t6 := cell_of_row _ _ 6 _ _ _ HT.out
  simp at c0 c1 t0 t1 t2 t3 t4 t5 t6
  have hst := fun (a : Addr) (md : Mode) (wx : World) => run_store (P := Tryz.prog) wx a (.float .f64 r) md rfl
  go_wp2_with fail
  refine (unit_any s u o 26 loc _ h2 ho).mono ?_
  rintro e w2 ⟨rfl, hb2⟩
  have e1 := setCell_row (i := 1) (v := .float .f64 r) H1.out.1
  have e2 := (hb2.block (w.heap.size + 1) (by simp; exact H1.out.2.2)).trans e1
  have hB := (H1.out.2.1.setCell (by simp) (.float .f64 r) (p := ⟨w.heap.size + 1, 1, none⟩)).trans (hb2.mono (by simp; exact H1.out.2.1.size))
  have H2 := Lib.hid (And.intro e2 hB)
  clear e1 e2 hB hb2 c0 c1 f1
  have c0 := cell_of_row _ _ 0 _ _ _ H2.out.1
  have f1 : ∀ j, w2.frozen? ⟨w.heap.size + 1, j, none⟩ = false := fun j => by simp [World.frozen?, H2.out.1]
  simp at c0
  go_wp2
  have hend := setCell_row (i := 0) (v := .string u) H2.out.1
  refine bodyPost_ret (results_row_tmp rfl _ _ (w.heap.size + 1) 57 _ (0, 0) _ rfl hend Tryz.underlying57 rfl (by kernel_rfl)) rfl ⟨rfl, ?_⟩
  exact H2.out.2.setCell (by simp) _
end Go.Proofs.YtnmjfjfpedbalaaGreatDoor
