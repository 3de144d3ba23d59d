/- tryToParseValue where the number's text parses, whatever memory the parsing makes; its refusals. -/
import Derived.Test.YtodlhjdogcpffaaDoorZzttv
namespace Go.Proofs.YtodlhjdogcpffaaDoor
open Go.RowKit

/-- ParseFloat takes the text t and answers r, in every world above w. -/
def ParsesB (t : ByteArray) (r : Nat) (w : World) : Prop := ∀ wx, Below w.heap.size w wx → Calls Tryd.prog 25 #[.string t, .int .i64 64] wx fun e w' => e = .returned (.tuple #[.float .f64 r, .nilIface]) ∧ Below wx.heap.size wx w'

set_option maxRecDepth 100000 in
set_option maxHeartbeats 4000000 in
theorem ttvB_pct (t s : ByteArray) (r : Nat) (kind loc o : Int) (w : World) (h : ParsesB t r w) (h1 : s.extract 0 (s.size - 1) = t) (h0 : 0 < s.size) (hs : s.size ≤ 100000) :
    Calls Tryd.prog 18 #[tokU 34 s loc o, .int .u8 kind] w (Got r { data := #[37] } true w) := by
  have HP := Lib.hid h
  clear h
  by_cases hk : kind = 2
  · subst hk
    go_enter Tryd.func18, Tryd.ntmps18
    go_wp2_with (first | (go_at_call 26; go_in) | fail)
    refine (HP.out _ ((((Below.refl _ _).alloc (Nat.le_refl _) _).alloc (by simp) _).alloc (by simp; omega) _)).mono ?_
    rintro e w1 ⟨rfl, hb1⟩
    have hrow : w1.heap[w.heap.size + 1]? = some (.cells #[.string { data := #[] }, .float .f64 0] 52 (0, 0)) := by
      have e := heap_alloc_new (w.alloc (.cells #[.pointer none, .string s, .int .i32 loc, .int .u32 0, .int .u16 o, .int .u8 34, .int .u8 0] 36)) (.cells #[.string { data := #[] }, .float .f64 0] 52)
      rw [show (w.alloc (.cells #[.pointer none, .string s, .int .i32 loc, .int .u32 0, .int .u16 o, .int .u8 34, .int .u8 0] 36)).heap.size = w.heap.size + 1 by simp] at e
      rw [hb1.block _ (by simp), heap_alloc_old _ _ (by simp)]
      exact e
    have htok : w1.heap[w.heap.size]? = some (.cells #[.pointer none, .string s, .int .i32 loc, .int .u32 0, .int .u16 o, .int .u8 34, .int .u8 0] 36 (0, 0)) := by
      have e := heap_alloc_new w (.cells #[.pointer none, .string s, .int .i32 loc, .int .u32 0, .int .u16 o, .int .u8 34, .int .u8 0] 36)
      rw [hb1.block _ (by simp; omega), heap_alloc_old _ _ (by simp; omega), heap_alloc_old _ _ (by simp)]
      exact e
    have hB : Below w.heap.size w w1 := ((((Below.refl _ _).alloc (Nat.le_refl _) _).alloc (by simp) _).alloc (by simp; omega) _).trans (hb1.mono (by simp; omega))
    have hlt : w.heap.size + 1 < w1.heap.size := by
      have := hb1.size
      simp at this
      omega
    have H1 := Lib.hid (And.intro hrow (And.intro hB (And.intro hlt htok)))
    clear hrow hB hb1 hlt htok
    go_wp2_with fail
    refine (newf_any r _).mono ?_
    rintro e w2 ⟨rfl, hb2⟩
    have hrow := (hb2.block (w.heap.size + 1) H1.out.2.2.1).trans H1.out.1
    have htok := (hb2.block w.heap.size (Nat.lt_of_succ_lt H1.out.2.2.1)).trans H1.out.2.2.2
    have hB := H1.out.2.1.trans (hb2.mono H1.out.2.1.size)
    have hlt := Nat.lt_of_lt_of_le H1.out.2.2.1 hb2.size
    have H2 := Lib.hid (And.intro hrow (And.intro hB (And.intro hlt htok)))
    clear hrow hB hb2 hlt htok
    have c0 := cell_of_row _ _ 0 _ _ _ H2.out.1
    have c1 := cell_of_row _ _ 1 _ _ _ H2.out.1
    have f1 : ∀ j, w2.frozen? ⟨w.heap.size + 1, j, none⟩ = false := fun j => by simp [World.frozen?, H2.out.1]
    have hst := fun (a : Addr) (md : Mode) (wx : World) => run_store (P := Tryd.prog) wx a (.float .f64 r) md rfl
    simp at c0 c1
    go_wp2
    have hend := setCell_row (i := 0) (v := .string { data := #[37] }) (setCell_row (i := 1) (v := .float .f64 r) H2.out.1)
    refine bodyPost_ret (results_row_tmp rfl _ _ (w.heap.size + 1) 52 _ (0, 0) _ rfl hend Tryd.underlying52 rfl (by kernel_rfl)) rfl ⟨rfl, ?_⟩
    exact (H2.out.2.1.setCell (by simp) _).setCell (by simp) _
  · go_enter Tryd.func18, Tryd.ntmps18
    go_wp2_with (first | (go_at_call 26; go_in) | fail)
    refine (HP.out _ ((((Below.refl _ _).alloc (Nat.le_refl _) _).alloc (by simp) _).alloc (by simp; omega) _)).mono ?_
    rintro e w1 ⟨rfl, hb1⟩
    have hrow : w1.heap[w.heap.size + 1]? = some (.cells #[.string { data := #[] }, .float .f64 0] 52 (0, 0)) := by
      have e := heap_alloc_new (w.alloc (.cells #[.pointer none, .string s, .int .i32 loc, .int .u32 0, .int .u16 o, .int .u8 34, .int .u8 0] 36)) (.cells #[.string { data := #[] }, .float .f64 0] 52)
      rw [show (w.alloc (.cells #[.pointer none, .string s, .int .i32 loc, .int .u32 0, .int .u16 o, .int .u8 34, .int .u8 0] 36)).heap.size = w.heap.size + 1 by simp] at e
      rw [hb1.block _ (by simp), heap_alloc_old _ _ (by simp)]
      exact e
    have htok : w1.heap[w.heap.size]? = some (.cells #[.pointer none, .string s, .int .i32 loc, .int .u32 0, .int .u16 o, .int .u8 34, .int .u8 0] 36 (0, 0)) := by
      have e := heap_alloc_new w (.cells #[.pointer none, .string s, .int .i32 loc, .int .u32 0, .int .u16 o, .int .u8 34, .int .u8 0] 36)
      rw [hb1.block _ (by simp; omega), heap_alloc_old _ _ (by simp; omega), heap_alloc_old _ _ (by simp)]
      exact e
    have hB : Below w.heap.size w w1 := ((((Below.refl _ _).alloc (Nat.le_refl _) _).alloc (by simp) _).alloc (by simp; omega) _).trans (hb1.mono (by simp; omega))
    have hlt : w.heap.size + 1 < w1.heap.size := by
      have := hb1.size
      simp at this
      omega
    have H1 := Lib.hid (And.intro hrow (And.intro hB (And.intro hlt htok)))
    clear hrow hB hb1 hlt htok
    go_wp2_with fail
    refine (newf_any r _).mono ?_
    rintro e w2 ⟨rfl, hb2⟩
    have hrow := (hb2.block (w.heap.size + 1) H1.out.2.2.1).trans H1.out.1
    have htok := (hb2.block w.heap.size (Nat.lt_of_succ_lt H1.out.2.2.1)).trans H1.out.2.2.2
    have hB := H1.out.2.1.trans (hb2.mono H1.out.2.1.size)
    have hlt := Nat.lt_of_lt_of_le H1.out.2.2.1 hb2.size
    have H2 := Lib.hid (And.intro hrow (And.intro hB (And.intro hlt htok)))
    clear hrow hB hb2 hlt htok
    have c0 := cell_of_row _ _ 0 _ _ _ H2.out.1
    have c1 := cell_of_row _ _ 1 _ _ _ H2.out.1
    have f1 : ∀ j, w2.frozen? ⟨w.heap.size + 1, j, none⟩ = false := fun j => by simp [World.frozen?, H2.out.1]
    have hst := fun (a : Addr) (md : Mode) (wx : World) => run_store (P := Tryd.prog) wx a (.float .f64 r) md rfl
    simp at c0 c1
    go_wp2
    have hend := setCell_row (i := 0) (v := .string { data := #[37] }) (setCell_row (i := 1) (v := .float .f64 r) H2.out.1)
    refine bodyPost_ret (results_row_tmp rfl _ _ (w.heap.size + 1) 52 _ (0, 0) _ rfl hend Tryd.underlying52 rfl (by kernel_rfl)) rfl ⟨rfl, ?_⟩
    exact (H2.out.2.1.setCell (by simp) _).setCell (by simp) _

set_option maxRecDepth 100000 in
set_option maxHeartbeats 4000000 in
theorem ttvB_dim (t u s : ByteArray) (r o : Nat) (kind loc : Int) (w : World) (h : ParsesB t r w) (h1 : s.extract 0 o = t) (h2 : s.extract o s.size = u) (ho : o ≤ s.size) (hs : s.size ≤ 100000) (hk : ¬ kind = 2) :
    Calls Tryd.prog 18 #[tokU 26 s loc o, .int .u8 kind] w (Got r u true w) := by
  have HP := Lib.hid h
  clear h
  go_enter Tryd.func18, Tryd.ntmps18
  go_wp2_with (first | (go_at_call 27; go_in) | fail)
  refine (HP.out _ ((((Below.refl _ _).alloc (Nat.le_refl _) _).alloc (by simp) _).alloc (by simp; omega) _)).mono ?_
  rintro e w1 ⟨rfl, hb1⟩
  have hrow : w1.heap[w.heap.size + 1]? = some (.cells #[.string { data := #[] }, .float .f64 0] 52 (0, 0)) := by
    have e := heap_alloc_new (w.alloc (.cells #[.pointer none, .string s, .int .i32 loc, .int .u32 0, .int .u16 o, .int .u8 26, .int .u8 0] 36)) (.cells #[.string { data := #[] }, .float .f64 0] 52)
    rw [show (w.alloc (.cells #[.pointer none, .string s, .int .i32 loc, .int .u32 0, .int .u16 o, .int .u8 26, .int .u8 0] 36)).heap.size = w.heap.size + 1 by simp] at e
    rw [hb1.block _ (by simp), heap_alloc_old _ _ (by simp)]
    exact e
  have htok : w1.heap[w.heap.size]? = some (.cells #[.pointer none, .string s, .int .i32 loc, .int .u32 0, .int .u16 o, .int .u8 26, .int .u8 0] 36 (0, 0)) := by
    have e := heap_alloc_new w (.cells #[.pointer none, .string s, .int .i32 loc, .int .u32 0, .int .u16 o, .int .u8 26, .int .u8 0] 36)
    rw [hb1.block _ (by simp; omega), heap_alloc_old _ _ (by simp; omega), heap_alloc_old _ _ (by simp)]
    exact e
  have hB : Below w.heap.size w w1 := ((((Below.refl _ _).alloc (Nat.le_refl _) _).alloc (by simp) _).alloc (by simp; omega) _).trans (hb1.mono (by simp; omega))
  have hlt : w.heap.size + 1 < w1.heap.size := by
    have := hb1.size
    simp at this
    omega
  have H1 := Lib.hid (And.intro hrow (And.intro hB (And.intro hlt htok)))
  clear hrow hB hb1 hlt htok
  go_wp2_with fail
  refine (newf_any r _).mono ?_
  rintro e w2 ⟨rfl, hb2⟩
  have hrow := (hb2.block (w.heap.size + 1) H1.out.2.2.1).trans H1.out.1
  have htok := (hb2.block w.heap.size (Nat.lt_of_succ_lt H1.out.2.2.1)).trans H1.out.2.2.2
  have hB := H1.out.2.1.trans (hb2.mono H1.out.2.1.size)
  have hlt := Nat.lt_of_lt_of_le H1.out.2.2.1 hb2.size
  have H2 := Lib.hid (And.intro hrow (And.intro hB (And.intro hlt htok)))
  clear hrow hB hb2 hlt htok
  have c0 := cell_of_row _ _ 0 _ _ _ H2.out.1
  have c1 := cell_of_row _ _ 1 _ _ _ H2.out.1
  have f1 : ∀ j, w2.frozen? ⟨w.heap.size + 1, j, none⟩ = false := fun j => by simp [World.frozen?, H2.out.1]
  have hst := fun (a : Addr) (md : Mode) (wx : World) => run_store (P := Tryd.prog) wx a (.float .f64 r) md rfl
  simp at c0 c1
  have t0 := cell_of_row _ _ 0 _ _ _ H2.out.2.2.2
  have t1 := cell_of_row _ _ 1 _ _ _ H2.out.2.2.2
  have t2 := cell_of_row _ _ 2 _ _ _ H2.out.2.2.2
  have t3 := cell_of_row _ _ 3 _ _ _ H2.out.2.2.2
  have t4 := cell_of_row _ _ 4 _ _ _ H2.out.2.2.2
  have t5 := cell_of_row _ _ 5 _ _ _ H2.out.2.2.2
  have t6 := cell_of_row _ _ 6 _ _ _ H2.out.2.2.2
  simp at t0 t1 t2 t3 t4 t5 t6
  go_wp2_with fail
  refine (unit_any s u o 26 loc _ h2 ho).mono ?_
  rintro e w3 ⟨rfl, hb3⟩
  have e1 := setCell_row (i := 1) (v := .float .f64 r) H2.out.1
  have e2 := (hb3.block (w.heap.size + 1) (by simp; exact H2.out.2.2.1)).trans e1
  have hB := (H2.out.2.1.setCell (by simp) (.float .f64 r) (p := ⟨w.heap.size + 1, 1, none⟩)).trans (hb3.mono (by simp; exact H2.out.2.1.size))
  have H3 := Lib.hid (And.intro e2 hB)
  clear e1 e2 hB hb3 c0 c1 f1
  have c0 := cell_of_row _ _ 0 _ _ _ H3.out.1
  have f1 : ∀ j, w3.frozen? ⟨w.heap.size + 1, j, none⟩ = false := fun j => by simp [World.frozen?, H3.out.1]
  simp at c0
  go_wp2
  have hend := setCell_row (i := 0) (v := .string u) H3.out.1
  refine bodyPost_ret (results_row_tmp rfl _ _ (w.heap.size + 1) 52 _ (0, 0) _ rfl hend Tryd.underlying52 rfl (by kernel_rfl)) rfl ⟨rfl, ?_⟩
  exact H3.out.2.setCell (by simp) _

set_option maxRecDepth 100000 in
set_option maxHeartbeats 4000000 in
theorem ttvB_num_zero (s : ByteArray) (r : Nat) (kind loc o : Int) (w : World) (h : ParsesB s r w) (hk : ¬ kind = 2) (hz : (FloatKind.f64.format.order r 0 != some Ordering.eq) = false) :
    Calls Tryd.prog 18 #[tokU 30 s loc o, .int .u8 kind] w (Got 0 { data := #[37] } true w) := by
  have HP := Lib.hid h
  clear h
  go_enter Tryd.func18, Tryd.ntmps18
  go_wp2_with (fail)
  refine (HP.out _ (((Below.refl _ _).alloc (Nat.le_refl _) _).alloc (by simp) _)).mono ?_
  rintro e w1 ⟨rfl, hb1⟩
  have hrow : w1.heap[w.heap.size + 1]? = some (.cells #[.string { data := #[] }, .float .f64 0] 52 (0, 0)) := by
    have e := heap_alloc_new (w.alloc (.cells #[.pointer none, .string s, .int .i32 loc, .int .u32 0, .int .u16 o, .int .u8 30, .int .u8 0] 36)) (.cells #[.string { data := #[] }, .float .f64 0] 52)
    rw [show (w.alloc (.cells #[.pointer none, .string s, .int .i32 loc, .int .u32 0, .int .u16 o, .int .u8 30, .int .u8 0] 36)).heap.size = w.heap.size + 1 by simp] at e
    rw [hb1.block _ (by simp)]
    exact e
  have htok : w1.heap[w.heap.size]? = some (.cells #[.pointer none, .string s, .int .i32 loc, .int .u32 0, .int .u16 o, .int .u8 30, .int .u8 0] 36 (0, 0)) := by
    have e := heap_alloc_new w (.cells #[.pointer none, .string s, .int .i32 loc, .int .u32 0, .int .u16 o, .int .u8 30, .int .u8 0] 36)
    rw [hb1.block _ (by simp; omega), heap_alloc_old _ _ (by simp)]
    exact e
  have hB : Below w.heap.size w w1 := (((Below.refl _ _).alloc (Nat.le_refl _) _).alloc (by simp) _).trans (hb1.mono (by simp; omega))
  have hlt : w.heap.size + 1 < w1.heap.size := by
    have := hb1.size
    simp at this
    omega
  have H1 := Lib.hid (And.intro hrow (And.intro hB (And.intro hlt htok)))
  clear hrow hB hb1 hlt htok
  go_wp2_with fail
  refine (newf_any 0 _).mono ?_
  rintro e w2 ⟨rfl, hb2⟩
  have hrow := (hb2.block (w.heap.size + 1) H1.out.2.2.1).trans H1.out.1
  have htok := (hb2.block w.heap.size (Nat.lt_of_succ_lt H1.out.2.2.1)).trans H1.out.2.2.2
  have hB := H1.out.2.1.trans (hb2.mono H1.out.2.1.size)
  have hlt := Nat.lt_of_lt_of_le H1.out.2.2.1 hb2.size
  have H2 := Lib.hid (And.intro hrow (And.intro hB (And.intro hlt htok)))
  clear hrow hB hb2 hlt htok
  have c0 := cell_of_row _ _ 0 _ _ _ H2.out.1
  have c1 := cell_of_row _ _ 1 _ _ _ H2.out.1
  have f1 : ∀ j, w2.frozen? ⟨w.heap.size + 1, j, none⟩ = false := fun j => by simp [World.frozen?, H2.out.1]
  have hst := fun (a : Addr) (md : Mode) (wx : World) => run_store (P := Tryd.prog) wx a (.float .f64 0) md rfl
  simp at c0 c1
  go_wp2
  have hend := setCell_row (i := 0) (v := .string { data := #[37] }) (setCell_row (i := 1) (v := .float .f64 0) H2.out.1)
  refine bodyPost_ret (results_row_tmp rfl _ _ (w.heap.size + 1) 52 _ (0, 0) _ rfl hend Tryd.underlying52 rfl (by kernel_rfl)) rfl ⟨rfl, ?_⟩
  exact (H2.out.2.1.setCell (by simp) _).setCell (by simp) _

set_option maxRecDepth 100000 in
set_option maxHeartbeats 4000000 in
theorem ttvB_num_bad (s : ByteArray) (r : Nat) (kind loc o : Int) (w : World) (h : ParsesB s r w) (hk : ¬ kind = 2) (hz : (FloatKind.f64.format.order r 0 != some Ordering.eq) = true) :
    Calls Tryd.prog 18 #[tokU 30 s loc o, .int .u8 kind] w (Got 0 { data := #[] } false w) := by
  have HP := Lib.hid h
  clear h
  go_enter Tryd.func18, Tryd.ntmps18
  go_wp2_with (fail)
  refine (HP.out _ (((Below.refl _ _).alloc (Nat.le_refl _) _).alloc (by simp) _)).mono ?_
  rintro e w1 ⟨rfl, hb1⟩
  have hrow : w1.heap[w.heap.size + 1]? = some (.cells #[.string { data := #[] }, .float .f64 0] 52 (0, 0)) := by
    have e := heap_alloc_new (w.alloc (.cells #[.pointer none, .string s, .int .i32 loc, .int .u32 0, .int .u16 o, .int .u8 30, .int .u8 0] 36)) (.cells #[.string { data := #[] }, .float .f64 0] 52)
    rw [show (w.alloc (.cells #[.pointer none, .string s, .int .i32 loc, .int .u32 0, .int .u16 o, .int .u8 30, .int .u8 0] 36)).heap.size = w.heap.size + 1 by simp] at e
    rw [hb1.block _ (by simp)]
    exact e
  have htok : w1.heap[w.heap.size]? = some (.cells #[.pointer none, .string s, .int .i32 loc, .int .u32 0, .int .u16 o, .int .u8 30, .int .u8 0] 36 (0, 0)) := by
    have e := heap_alloc_new w (.cells #[.pointer none, .string s, .int .i32 loc, .int .u32 0, .int .u16 o, .int .u8 30, .int .u8 0] 36)
    rw [hb1.block _ (by simp; omega), heap_alloc_old _ _ (by simp)]
    exact e
  have hB : Below w.heap.size w w1 := (((Below.refl _ _).alloc (Nat.le_refl _) _).alloc (by simp) _).trans (hb1.mono (by simp; omega))
  have hlt : w.heap.size + 1 < w1.heap.size := by
    have := hb1.size
    simp at this
    omega
  have H1 := Lib.hid (And.intro hrow (And.intro hB (And.intro hlt htok)))
  clear hrow hB hb1 hlt htok
  go_wp2
  refine bodyPost_ret (results_row_tmp rfl _ _ (w.heap.size + 1) 52 _ (0, 0) _ rfl H1.out.1 Tryd.underlying52 rfl (by kernel_rfl)) rfl ⟨rfl, ?_⟩
  exact H1.out.2.1

set_option maxRecDepth 100000 in
set_option maxHeartbeats 4000000 in
theorem ttvB_num_conic (s : ByteArray) (loc o : Int) (w : World) : Calls Tryd.prog 18 #[tokU 30 s loc o, .int .u8 2] w (Got 0 { data := #[] } false w) := by
  go_enter Tryd.func18, Tryd.ntmps18
  go_wp2
  have e := heap_alloc_new (w.alloc (.cells #[.pointer none, .string s, .int .i32 loc, .int .u32 0, .int .u16 o, .int .u8 30, .int .u8 0] 36)) (.cells #[.string { data := #[] }, .float .f64 0] 52)
  rw [show (w.alloc (.cells #[.pointer none, .string s, .int .i32 loc, .int .u32 0, .int .u16 o, .int .u8 30, .int .u8 0] 36)).heap.size = w.heap.size + 1 by simp] at e
  refine bodyPost_ret (results_row_tmp rfl _ _ (w.heap.size + 1) 52 _ (0, 0) _ rfl e Tryd.underlying52 rfl (by kernel_rfl)) rfl ⟨rfl, ?_⟩
  exact (((Below.refl _ _).alloc (Nat.le_refl _) _).alloc (by simp) _)

set_option maxRecDepth 100000 in
set_option maxHeartbeats 4000000 in
theorem ttvB_ident (s : ByteArray) (kind loc o : Int) (w : World) : Calls Tryd.prog 18 #[tokU 29 s loc o, .int .u8 kind] w (Got 0 { data := #[] } false w) := by
  by_cases hk : kind = 2
  · subst hk
    go_enter Tryd.func18, Tryd.ntmps18
    go_wp2
    have e := heap_alloc_new (w.alloc (.cells #[.pointer none, .string s, .int .i32 loc, .int .u32 0, .int .u16 o, .int .u8 29, .int .u8 0] 36)) (.cells #[.string { data := #[] }, .float .f64 0] 52)
    rw [show (w.alloc (.cells #[.pointer none, .string s, .int .i32 loc, .int .u32 0, .int .u16 o, .int .u8 29, .int .u8 0] 36)).heap.size = w.heap.size + 1 by simp] at e
    refine bodyPost_ret (results_row_tmp rfl _ _ (w.heap.size + 1) 52 _ (0, 0) _ rfl e Tryd.underlying52 rfl (by kernel_rfl)) rfl ⟨rfl, ?_⟩
    exact (((Below.refl _ _).alloc (Nat.le_refl _) _).alloc (by simp) _)
  · go_enter Tryd.func18, Tryd.ntmps18
    go_wp2
    have e := heap_alloc_new (w.alloc (.cells #[.pointer none, .string s, .int .i32 loc, .int .u32 0, .int .u16 o, .int .u8 29, .int .u8 0] 36)) (.cells #[.string { data := #[] }, .float .f64 0] 52)
    rw [show (w.alloc (.cells #[.pointer none, .string s, .int .i32 loc, .int .u32 0, .int .u16 o, .int .u8 29, .int .u8 0] 36)).heap.size = w.heap.size + 1 by simp] at e
    refine bodyPost_ret (results_row_tmp rfl _ _ (w.heap.size + 1) 52 _ (0, 0) _ rfl e Tryd.underlying52 rfl (by kernel_rfl)) rfl ⟨rfl, ?_⟩
    exact (((Below.refl _ _).alloc (Nat.le_refl _) _).alloc (by simp) _)
end Go.Proofs.YtodlhjdogcpffaaDoor
