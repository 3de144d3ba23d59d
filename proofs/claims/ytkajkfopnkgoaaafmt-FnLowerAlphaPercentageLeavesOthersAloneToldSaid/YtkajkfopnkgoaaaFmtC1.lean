/- lowerAlphaPercentageToNumber on other kinds and on a percentage that is no number. -/
import Derived.Test.YtkajkfopnkgoaaaFmtParseNo
import Derived.Test.YtkajkfopnkgoaaaFmtZ1
namespace Go.Proofs.YtkajkfopnkgoaaaFmt
open Go.RowKit

abbrev tokV (s : ByteArray) (k : Int) : Value := .agg #[.pointer none, .string s, .int .i32 0, .int .u32 0, .int .u16 0, .int .u8 k, .int .u8 0]
def Same (s : ByteArray) (k : Int) (w : World) (e : Ending) (w' : World) : Prop := e = .returned (tokV s k) ∧ Below w.heap.size w w'

set_option maxRecDepth 100000 in
set_option maxHeartbeats 2000000 in
theorem low_other (s : ByteArray) (k : Int) (w : World) (hk : (k == 34) = false) : Calls Tryf.prog 9 #[tokV s k] w (Same s k w) := by
  go_enter Tryf.func9, Tryf.ntmps9
  go_wp2
  refine bodyPost_ret (v := tokV s k) (by simp [results, Tryf.results9, go_sem]) rfl ⟨rfl, ?_⟩
  exact ((Below.refl _ _).alloc (Nat.le_refl _) _).alloc (by simp) _

theorem extract_first (s : ByteArray) (h : 2 ≤ s.size) (b : UInt8) (hb : s[0] = b) : ∃ h : 0 < (s.extract 0 (s.size - 1)).size, (s.extract 0 (s.size - 1))[0] = b := by
  refine ⟨by simp; omega, ?_⟩
  rw [← hb]
  simp [ByteArray.getElem_extract]

set_option maxRecDepth 100000 in
set_option maxHeartbeats 2000000 in
theorem low_bad (s : ByteArray) (w : World) (hs : s.size ≤ 281474976710656) (h0 : 2 ≤ s.size) (b : UInt8) (hb : s[0] = b) (h1 : b = 122 ∨ b = 35) (hv : SynVar w) : Calls Tryf.prog 9 #[tokV s 34] w (Same s 34 w) := by
  have HB := Lib.hid (extract_first s h0 b hb)
  clear hb
  have hsz : (s.extract 0 (s.size - 1)).size = s.size - 1 := by simp
  have hle : (s.extract 0 (s.size - 1)).size ≤ 281474976710656 := by omega
  clear hsz
  have Hv := Lib.hid (hv.below (((Below.refl _ _).alloc (Nat.le_refl _) (.cells #[.pointer none, .string s, .int .i32 0, .int .u32 0, .int .u16 0, .int .u8 34, .int .u8 0] 31)).alloc (by simp) (.cells #[.pointer none, .string ByteArray.empty, .int .i32 0, .int .u32 0, .int .u16 0, .int .u8 0, .int .u8 0] 31)))
  clear hv
  go_enter Tryf.func9, Tryf.ntmps9
  go_wp2_with fail
  refine (ParseFloat_no (s.extract 0 (s.size - 1)) _ hle HB.out.1 b HB.out.2 h1 Hv.out).mono ?_
  rintro e w1 ⟨p, rfl, hb1⟩
  have hz := hb1.size
  simp at hz
  have c : ∀ j, w1.cell? ⟨w.heap.size, j, none⟩ = _ := fun j => hb1.cell (p := ⟨w.heap.size, j, none⟩) (by simp; omega)
  have c0 := c 0
  have c1 := c 1
  have c2 := c 2
  have c3 := c 3
  have c4 := c 4
  have c5 := c 5
  have c6 := c 6
  have f : ∀ j, w1.frozen? ⟨w.heap.size + 1, j, none⟩ = _ := fun j => hb1.frozen (p := ⟨w.heap.size + 1, j, none⟩) (by simp)
  have hh := (hb1.block (w.heap.size + 1) (by simp)).trans (heap_alloc2_new _ _ _)
  clear c
  simp at c0 c1 c2 c3 c4 c5 c6
  have HH := Lib.hid hh
  clear hh f
  go_wp2_with (refine wpList_store_row rfl 31 _ _ rfl (w.heap.size + 1) _ rfl rfl 31 _ HH.out (by kernel_rfl) rfl (by kernel_rfl) ?_)
  have hr := setRow_heap w1 (w.heap.size + 1) _ #[.pointer none, .string s, .int .i32 0, .int .u32 0, .int .u16 0, .int .u8 34, .int .u8 0] 31 (0, 0) HH.out
  refine bodyPost_ret (results_cell_row rfl _ _ (w.heap.size + 1) 31 _ (0, 0) _ rfl hr Tryf.underlying31 rfl (by kernel_rfl)) rfl ⟨rfl, ?_⟩
  exact below_setRow ((((Below.refl _ _).alloc (Nat.le_refl _) _).alloc (by simp) _).trans (hb1.mono (by simp; omega))) (by omega) _

set_option maxRecDepth 100000 in
set_option maxHeartbeats 2000000 in
theorem zz6_of (s : ByteArray) (k : Int) (w : World) (h : ∀ w, SynVar w → Calls Tryf.prog 9 #[tokV s k] w (Same s k w)) (hv : SynVar w) : Calls Tryf.prog 6 #[tokV s k] w (Same s k w) := by
  have H := Lib.hid h
  clear h
  have Hv := Lib.hid (hv.below (((Below.refl _ _).alloc (Nat.le_refl _) (.cells #[.pointer none, .string s, .int .i32 0, .int .u32 0, .int .u16 0, .int .u8 k, .int .u8 0] 31)).alloc (by simp) (.cells #[.pointer none, .string ByteArray.empty, .int .i32 0, .int .u32 0, .int .u16 0, .int .u8 0, .int .u8 0] 31)))
  clear hv
  go_enter Tryf.func6, Tryf.ntmps6
  go_wp2_with fail
  refine (H.out _ Hv.out).mono ?_
  rintro e w1 ⟨rfl, hb1⟩
  have hz := hb1.size
  simp at hz
  have hh := (hb1.block (w.heap.size + 1) (by simp)).trans (heap_alloc2_new _ _ _)
  have HH := Lib.hid hh
  clear hh
  go_wp2_with (refine wpList_store_row rfl 31 _ _ rfl (w.heap.size + 1) _ rfl rfl 31 _ HH.out (by kernel_rfl) rfl (by kernel_rfl) ?_)
  have hr := setRow_heap w1 (w.heap.size + 1) _ #[.pointer none, .string s, .int .i32 0, .int .u32 0, .int .u16 0, .int .u8 k, .int .u8 0] 31 (0, 0) HH.out
  refine bodyPost_ret (results_cell_row rfl _ _ (w.heap.size + 1) 31 _ (0, 0) _ rfl hr Tryf.underlying31 rfl (by kernel_rfl)) rfl ⟨rfl, ?_⟩
  exact below_setRow ((((Below.refl _ _).alloc (Nat.le_refl _) _).alloc (by simp) _).trans (hb1.mono (by simp; omega))) (by omega) _
end Go.Proofs.YtkajkfopnkgoaaaFmt
