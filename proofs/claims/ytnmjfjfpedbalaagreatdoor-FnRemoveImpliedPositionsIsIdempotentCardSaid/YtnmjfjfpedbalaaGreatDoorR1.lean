/- The small makers: tokens, stops. -/
import Derived.Test.YtnmjfjfpedbalaaGreatDoorBase
import Derived.Test.YtnmjfjfpedbalaaGreatDoorProg
import Derived.Great.BuildSlice
import Derived.Deep.Cut
namespace Go.Proofs.YtnmjfjfpedbalaaGreatDoor
open Go.RowKit
set_option linter.unusedVariables false
/-- A token: its children's pointer, its text, the place of its unit, its kind. -/
structure TD where
  p : Option Addr
  s : ByteArray
  o : Nat
  k : Nat
abbrev TD.cs (t : TD) : Array Value := #[.pointer t.p, .string t.s, .int .i32 0, .int .u32 0, .int .u16 t.o, .int .u8 t.k, .int .u8 0]
abbrev noTok : Array Value := #[.pointer none, .string { data := #[] }, .int .i32 0, .int .u32 0, .int .u16 0, .int .u8 0, .int .u8 0]
theorem tok_alloc (w : World) : (w.alloc (.cells noTok 37)).heap[w.heap.size]? = some (.cells noTok 37 (0, 0)) := heap_alloc_new _ _
set_option maxRecDepth 100000 in
set_option maxHeartbeats 400000 in
theorem tok_any (k : Nat) (s : ByteArray) (w : World) :
    Calls Tryz.prog 15 #[.int .u8 k, .string s] w (fun e w' => e = .returned (.agg (TD.cs ⟨none, s, 0, k⟩)) ∧ Below w.heap.size w w') := by
  go_enter Tryz.func15, Tryz.ntmps15
  go_wp2_with (refine wpList_store_row rfl 37 _ _ rfl w.heap.size _ rfl rfl 37 _ (tok_alloc w) (by kernel_rfl) rfl (by kernel_rfl) ?_)
  have hJ := setRow_heap _ w.heap.size _ (TD.cs ⟨none, s, 0, k⟩) 37 (0, 0) (tok_alloc w)
  exact bodyPost_ret (results_cell_row rfl _ _ w.heap.size 37 _ (0, 0) _ rfl hJ Tryz.underlying37 rfl (by kernel_rfl)) rfl ⟨rfl, below_setRow ((Below.refl _ _).alloc (Nat.le_refl _) _) (Nat.le_refl _) _⟩
abbrev stA (v : Value) (c m : TD) : Array Value := #[v, .pointer c.p, .string c.s, .int .i32 0, .int .u32 0, .int .u16 c.o, .int .u8 c.k, .int .u8 0, .pointer m.p, .string m.s, .int .i32 0, .int .u32 0, .int .u16 m.o, .int .u8 m.k, .int .u8 0]
abbrev zTD : TD := ⟨none, { data := #[] }, 0, 0⟩
set_option maxRecDepth 100000 in
set_option maxHeartbeats 400000 in
theorem func_any (s : ByteArray) (w : World) :
    Calls Tryz.prog 28 #[.string s] w (fun e w' => ∃ p, e = .returned (.agg (TD.cs ⟨some p, s, 0, 27⟩)) ∧ Below w.heap.size w w') := by
  go_enter Tryz.func28, Tryz.ntmps28
  go_wp2_with fail
  have e1 : (((w.alloc (.cells (TD.cs ⟨some ⟨w.heap.size + 1 + 1, 0, none⟩, s, 0, 27⟩) 37)).alloc (.cells #[] 37)).alloc (.cells #[.slice (some ⟨w.heap.size + 1, 0, none⟩) 0 0] 28)).heap[w.heap.size]? = some (.cells (TD.cs ⟨some ⟨w.heap.size + 1 + 1, 0, none⟩, s, 0, 27⟩) 37 (0, 0)) := by
    rw [heap_alloc_old _ _ (by simp; omega), heap_alloc_old _ _ (by simp)]
    exact heap_alloc_new _ _
  exact bodyPost_ret (results_cell_row rfl _ _ w.heap.size 37 _ (0, 0) _ rfl e1 Tryz.underlying37 rfl (by kernel_rfl)) rfl ⟨_, rfl, ((((Below.refl _ _).alloc (Nat.le_refl _) _).alloc (by simp) _).alloc (by simp; omega) _)⟩
abbrev zSt : Array Value := #[.slice none 0 0, .pointer none, .string { data := #[] }, .int .i32 0, .int .u32 0, .int .u16 0, .int .u8 0, .int .u8 0, .pointer none, .string { data := #[] }, .int .i32 0, .int .u32 0, .int .u16 0, .int .u8 0, .int .u8 0]
set_option maxRecDepth 100000 in
set_option maxHeartbeats 400000 in
theorem newStop_any (a : Option Addr) (l cc : Nat) (c m : TD) (w : World) :
    Calls Tryz.prog 7 #[.agg (TD.cs c), .slice a l cc, .agg (TD.cs m)] w (fun e w' => e = .returned (.agg (stA (.slice a l cc) c m)) ∧ Below w.heap.size w w') := by
  obtain ⟨p1, s1, o1, k1⟩ := c
  obtain ⟨p2, s2, o2, k2⟩ := m
  dsimp only [TD.cs, stA]
  go_enter Tryz.func7, Tryz.ntmps7
  go_wp2_with fail
  have e1 := heap_alloc_new ((w.alloc (.cells #[.pointer p1, .string s1, .int .i32 0, .int .u32 0, .int .u16 o1, .int .u8 k1, .int .u8 0] 37)).alloc (.cells #[.pointer p2, .string s2, .int .i32 0, .int .u32 0, .int .u16 o2, .int .u8 k2, .int .u8 0] 37)) (.cells (stA (.slice a l cc) ⟨p1, s1, o1, k1⟩ ⟨p2, s2, o2, k2⟩) 39)
  rw [show ((w.alloc (.cells #[.pointer p1, .string s1, .int .i32 0, .int .u32 0, .int .u16 o1, .int .u8 k1, .int .u8 0] 37)).alloc (.cells #[.pointer p2, .string s2, .int .i32 0, .int .u32 0, .int .u16 o2, .int .u8 k2, .int .u8 0] 37)).heap.size = w.heap.size + 1 + 1 by simp] at e1
  exact bodyPost_ret (results_cell_row rfl _ _ (w.heap.size + 1 + 1) 39 _ (0, 0) _ rfl e1 Tryz.underlying39 rfl (by kernel_rfl)) rfl ⟨rfl, ((((Below.refl _ _).alloc (Nat.le_refl _) _).alloc (by simp) _).alloc (by simp; omega) _)⟩
set_option maxRecDepth 100000 in
set_option maxHeartbeats 400000 in
theorem stopColor_any (v : Value) (c m : TD) (w : World) :
    Calls Tryz.prog 8 #[.agg (stA v c m)] w (fun e w' => e = .returned (.agg (TD.cs c)) ∧ Below w.heap.size w w') := by
  go_enter Tryz.func8, Tryz.ntmps8
  go_wp2_with fail
  have e1 := heap_alloc_new (w.alloc (.cells (stA v c m) 39)) (.cells (TD.cs c) 37)
  rw [show (w.alloc (.cells (stA v c m) 39)).heap.size = w.heap.size + 1 by simp] at e1
  exact bodyPost_ret (results_cell_row rfl _ _ (w.heap.size + 1) 37 _ (0, 0) _ rfl e1 Tryz.underlying37 rfl (by kernel_rfl)) rfl ⟨rfl, (((Below.refl _ _).alloc (Nat.le_refl _) _).alloc (by simp) _)⟩
set_option maxRecDepth 100000 in
set_option maxHeartbeats 400000 in
theorem stopMid_any (v : Value) (c m : TD) (w : World) :
    Calls Tryz.prog 11 #[.agg (stA v c m)] w (fun e w' => e = .returned (.agg (TD.cs m)) ∧ Below w.heap.size w w') := by
  go_enter Tryz.func11, Tryz.ntmps11
  go_wp2_with fail
  have e1 := heap_alloc_new (w.alloc (.cells (stA v c m) 39)) (.cells (TD.cs m) 37)
  rw [show (w.alloc (.cells (stA v c m) 39)).heap.size = w.heap.size + 1 by simp] at e1
  exact bodyPost_ret (results_cell_row rfl _ _ (w.heap.size + 1) 37 _ (0, 0) _ rfl e1 Tryz.underlying37 rfl (by kernel_rfl)) rfl ⟨rfl, (((Below.refl _ _).alloc (Nat.le_refl _) _).alloc (by simp) _)⟩
set_option maxRecDepth 100000 in
set_option maxHeartbeats 400000 in
theorem stopPos_any (v : Value) (c m : TD) (w : World) :
    Calls Tryz.prog 10 #[.agg (stA v c m)] w (fun e w' => e = .returned v ∧ Below w.heap.size w w') := by
  go_enter Tryz.func10, Tryz.ntmps10
  go_wp2_with fail
  go_ret
  exact ⟨rfl, (Below.refl _ _).alloc (Nat.le_refl _) _⟩
set_option maxRecDepth 100000 in
set_option maxHeartbeats 400000 in
theorem same_any (x y : TD) (w : World) (hs : x.s = y.s) (ho : x.o = y.o) (hk : x.k = y.k) :
    Calls Tryz.prog 12 #[.agg (TD.cs x), .agg (TD.cs y)] w (fun e w' => e = .returned (.bool true) ∧ Below w.heap.size w w') := by
  obtain ⟨p, s, o, k⟩ := x
  obtain ⟨p2, s2, o2, k2⟩ := y
  dsimp only at hs ho hk
  subst hs
  subst ho
  subst hk
  go_enter Tryz.func12, Tryz.ntmps12
  go_wp2_with fail
  go_ret
  exact ⟨by simp, (((Below.refl _ _).alloc (Nat.le_refl _) _).alloc (by simp) _)⟩
/-- What zzPosInfo reads off a stop's byte and number. -/
structure Pos where
  n : Nat
  px : Bool
  mid : Bool
  fn : Bool
  v : Int
abbrev Pos.cs (q : Pos) : Array Value := #[.int .i64 q.n, .bool q.px, .bool q.mid, .bool q.fn, .int .i64 q.v]
def posOf (S V : Nat → Int) (m : Nat) (i : Nat) : Pos := ⟨(S i % 3).toNat, (S i / 3) % 2 == 1, (S i / 6) % 2 == 1, (S i / 12) % 2 == 1, 5 * (if i < m then V i else 0)⟩
set_option maxRecDepth 100000 in
set_option maxHeartbeats 400000 in
theorem posInfo_any (S V : Nat → Int) (sa va : Option Addr) (n sc m vc i : Nat) (w : World) (hs : RowAt w sa n (intAt .u8 S)) (hv : RowAt w va m (intAt .i8 V)) (hS : ∀ i, i < n → 0 ≤ S i ∧ S i ≤ 255) (hV : ∀ i, i < m → -128 ≤ V i ∧ V i ≤ 127) (hi : i < n) (hn : n ≤ 256) (hm : m ≤ 65536) :
    Calls Tryz.prog 14 #[.slice sa n sc, .slice va m vc, .int .i64 i] w (fun e w' => e = .returned (.agg (Pos.cs (posOf S V m i))) ∧ Below w.heap.size w w') := by
  obtain ⟨b, o, rfl, hbl, h2⟩ := hs.blk (by omega)
  have h3 := h2 i hi
  have hSi := hS i hi
  clear h2
  simp only [intAt] at h3
  by_cases hm2 : i < m
  · obtain ⟨b2, o2, rfl, hbl2, h4⟩ := hv.blk (by omega)
    have h5 := h4 i hm2
    have hVi := hV i hm2
    clear h4
    simp only [intAt] at h5
    go_enter Tryz.func14, Tryz.ntmps14
    go_wp2_with fail
    have e1 := heap_alloc_new w (.cells (Pos.cs (posOf S V m i)) 48)
    have ep : Pos.cs (posOf S V m i) = #[.int .i64 (S i % 3), .bool (S i / 3 % 2 == 1), .bool (S i / 6 % 2 == 1), .bool (S i / 12 % 2 == 1), .int .i64 (5 * V i)] := by
      have h9 : (((S i % 3).toNat : Nat) : Int) = S i % 3 := Int.toNat_of_nonneg (by omega)
      simp only [Pos.cs, posOf, if_pos hm2, h9]
    rw [ep] at e1 ⊢
    exact bodyPost_ret (results_cell_row rfl _ _ w.heap.size 48 _ (0, 0) _ rfl e1 Tryz.underlying48 rfl (by kernel_rfl)) rfl ⟨rfl, (Below.refl _ _).alloc (Nat.le_refl _) _⟩
  · go_enter Tryz.func14, Tryz.ntmps14
    go_wp2_with fail
    have e1 := heap_alloc_new w (.cells (Pos.cs (posOf S V m i)) 48)
    have ep : Pos.cs (posOf S V m i) = #[.int .i64 (S i % 3), .bool (S i / 3 % 2 == 1), .bool (S i / 6 % 2 == 1), .bool (S i / 12 % 2 == 1), .int .i64 0] := by
      have h9 : (((S i % 3).toNat : Nat) : Int) = S i % 3 := Int.toNat_of_nonneg (by omega)
      simp only [Pos.cs, posOf, if_neg hm2, h9]
      rfl
    rw [ep] at e1 ⊢
    exact bodyPost_ret (results_cell_row rfl _ _ w.heap.size 48 _ (0, 0) _ rfl e1 Tryz.underlying48 rfl (by kernel_rfl)) rfl ⟨rfl, (Below.refl _ _).alloc (Nat.le_refl _) _⟩
end Go.Proofs.YtnmjfjfpedbalaaGreatDoor
