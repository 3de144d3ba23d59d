/- The builder over the listing made empty. -/
import Derived.Test.YthnfohpiiafciaaGreatFmtV3
import Derived.Deep.RegionWith
import Derived.Deep.RegionHeld3
namespace Go.Proofs.YthnfohpiiafciaaGreatFmt
open Go.RowKit

def Made (s : ByteArray) (w : World) (e : Ending) (w' : World) : Prop := ∃ m, e = .returned (.agg #[.map (some m), .pointer none, .string s]) ∧ w'.heap[m]? = some (.map #[] 0) ∧ w.heap.size ≤ m ∧ Below w.heap.size w w'

set_option maxRecDepth 100000 in
set_option maxHeartbeats 1000000 in
theorem made_any (s : ByteArray) (w : World) : Calls Tryz.prog 12 #[.string s] w (Made s w) := by
  have hmm := @run_makeMap Tryz.prog
  go_enter Tryz.func12, Tryz.ntmps12
  go_wp2
  exact bodyPost_ret (v := .agg #[.map (some (w.heap.size + 1)), .pointer none, .string s]) (by simp [results, Tryz.results12, go_sem]) rfl ⟨_, rfl, heap_alloc2_new _ _ _, by omega, ((Below.refl _ _).alloc (Nat.le_refl _) _).alloc (by simp) _⟩

structure K10 (w w' : World) : Prop where
  bel : Below w.heap.size w w'
  siz : w.heap.size + 3 ≤ w'.heap.size
  row : w'.heap[w.heap.size]? = some (.cells #[.string ByteArray.empty, .string ByteArray.empty, .string ByteArray.empty, .string ByteArray.empty, .int .u8 0, .string ByteArray.empty, .string ByteArray.empty, .string ByteArray.empty, .string ByteArray.empty, .int .u8 0, .bool false] 31 (0, 0))
  qry : w'.heap[w.heap.size + 1 + 1]? = some (.cells #[.pointer (some ⟨w.heap.size + 1, 0, none⟩), .pointer none, .pointer none, .int .u8 0] 118 (0, 0))
theorem K10.call {w w1 w2 : World} (h : K10 w w1) (hb : Below w1.heap.size w1 w2) : K10 w w2 := by
  obtain ⟨h1, h2, h3, h5⟩ := h
  exact ⟨h1.trans (hb.mono (by omega)), Nat.le_trans h2 hb.size, (hb.block _ (by omega)).trans h3, (hb.block _ (by omega)).trans h5⟩
theorem K10.alloc {w w1 : World} (h : K10 w w1) (o : Obj) : K10 w (w1.alloc o) := h.call ((Below.refl _ _).alloc (Nat.le_refl _) o)
theorem K10.drew {w w1 : World} (h : K10 w w1) : K10 w w1.drew := h.call ((Below.refl _ _).drew)
theorem K10.cells {w w1 : World} (h : K10 w w1) : w1.cell? ⟨w.heap.size, 0, none⟩ = some (.string ByteArray.empty) ∧ w1.cell? ⟨w.heap.size, 1, none⟩ = some (.string ByteArray.empty) ∧ w1.cell? ⟨w.heap.size, 2, none⟩ = some (.string ByteArray.empty) ∧ w1.cell? ⟨w.heap.size, 3, none⟩ = some (.string ByteArray.empty) ∧ w1.cell? ⟨w.heap.size, 4, none⟩ = some (.int .u8 0) ∧ w1.cell? ⟨w.heap.size, 5, none⟩ = some (.string ByteArray.empty) ∧ w1.cell? ⟨w.heap.size, 6, none⟩ = some (.string ByteArray.empty) ∧ w1.cell? ⟨w.heap.size, 7, none⟩ = some (.string ByteArray.empty) ∧ w1.cell? ⟨w.heap.size, 8, none⟩ = some (.string ByteArray.empty) ∧ w1.cell? ⟨w.heap.size, 9, none⟩ = some (.int .u8 0) ∧ w1.cell? ⟨w.heap.size, 10, none⟩ = some (.bool false) := by
  refine ⟨?_, ?_, ?_, ?_, ?_, ?_, ?_, ?_, ?_, ?_, ?_⟩ <;> (rw [cell_of_row _ _ _ _ _ _ h.row]; rfl)
theorem K10.frozen {w w1 : World} (h : K10 w w1) (j : Nat) : w1.frozen? ⟨w.heap.size, j, none⟩ = false := by
  simp [World.frozen?, h.row]
theorem K10.sets {w w1 : World} (h : K10 w w1) : w1.setCell ⟨w.heap.size, 0, none⟩ (.string ByteArray.empty) = w1 ∧ w1.setCell ⟨w.heap.size, 1, none⟩ (.string ByteArray.empty) = w1 ∧ w1.setCell ⟨w.heap.size, 2, none⟩ (.string ByteArray.empty) = w1 ∧ w1.setCell ⟨w.heap.size, 3, none⟩ (.string ByteArray.empty) = w1 ∧ w1.setCell ⟨w.heap.size, 4, none⟩ (.int .u8 0) = w1 ∧ w1.setCell ⟨w.heap.size, 5, none⟩ (.string ByteArray.empty) = w1 ∧ w1.setCell ⟨w.heap.size, 6, none⟩ (.string ByteArray.empty) = w1 ∧ w1.setCell ⟨w.heap.size, 7, none⟩ (.string ByteArray.empty) = w1 ∧ w1.setCell ⟨w.heap.size, 8, none⟩ (.string ByteArray.empty) = w1 ∧ w1.setCell ⟨w.heap.size, 9, none⟩ (.int .u8 0) = w1 ∧ w1.setCell ⟨w.heap.size, 10, none⟩ (.bool false) = w1 := by
  have hs := setRow_self w1 _ _ _ _ h.row
  refine ⟨?_, ?_, ?_, ?_, ?_, ?_, ?_, ?_, ?_, ?_, ?_⟩ <;> (rw [setCell_eq_setRow _ _ _ _ _ _ _ h.row]; exact hs)
theorem K10.cell {w w1 : World} (h : K10 w w1) (j : Nat) : w1.cell? ⟨w.heap.size + 1 + 1, j, none⟩ = (#[.pointer (some ⟨w.heap.size + 1, 0, none⟩), .pointer none, .pointer none, .int .u8 0] : Array Value)[j]? := cell_of_row _ _ _ _ _ _ h.qry

abbrev S10 (w w' : World) : Prop := K10 w w' ∧ w'.cell? ⟨w.heap.size + 1 + 1, 0, none⟩ = some (.pointer (some ⟨w.heap.size + 1, 0, none⟩)) ∧ w'.cell? ⟨w.heap.size + 1 + 1, 1, none⟩ = some (.pointer none) ∧ w'.cell? ⟨w.heap.size + 1 + 1, 2, none⟩ = some (.pointer none) ∧ w'.cell? ⟨w.heap.size + 1 + 1, 3, none⟩ = some (.int .u8 0)
theorem K10.all {w w' : World} (h : K10 w w') : S10 w w' := ⟨h, h.cell 0, h.cell 1, h.cell 2, h.cell 3⟩

theorem load_box (x : Option Addr) (s : ByteArray) (m : Nat) (a : Option Addr) (n c : Nat) (S : Nat → ByteArray) (w w1 : World) (hn : n ≤ 1048576) (hr : RowAt w a n (strAt S)) (hle : AllLeTo 1048576 (szAt S) n) (ht : Tabs w)
    (hk : K10 w (w1.alloc (.cells #[.pointer none, .pointer none, .string s, .string ByteArray.empty, .map (some m), .pointer none, .string s, .pointer none, .pointer none, .pointer none, .string ByteArray.empty, .bool false, .bool false, .bool false] 127))) (hm : w1.heap[m]? = some (.map #[] 0)) :
    Calls Tryz.prog 11 #[.agg #[.pointer x, .pointer none, .pointer none, .int .u8 0], .pointer (some ⟨w1.heap.size, 0, none⟩), .slice a n c] (w1.alloc (.cells #[.pointer none, .pointer none, .string s, .string ByteArray.empty, .map (some m), .pointer none, .string s, .pointer none, .pointer none, .pointer none, .string ByteArray.empty, .bool false, .bool false, .bool false] 127)) (Finds (w1.alloc (.cells #[.pointer none, .pointer none, .string s, .string ByteArray.empty, .map (some m), .pointer none, .string s, .pointer none, .pointer none, .pointer none, .string ByteArray.empty, .bool false, .bool false, .bool false] 127))) := by
  have hml : m < w1.heap.size := (Array.getElem?_eq_some_iff.1 hm).1
  refine load_empty x w1.heap.size m s a n c S _ hn (hr.below hk.bel) hle ?_ ?_ ?_ ((Go.heap_alloc_old _ _ hml).trans hm) (ht.below hk.bel)
  · rw [World.cell?_alloc_at _ _ _ _ (by simp)]; rfl
  · rw [World.cell?_alloc_at _ _ _ _ (by simp)]; rfl
  · rw [World.cell?_alloc_at _ _ _ _ (by simp)]; rfl

set_option maxRecDepth 100000 in
set_option maxHeartbeats 1000000 in
theorem zz_empty (s : ByteArray) (a : Option Addr) (n c : Nat) (S : Nat → ByteArray) (w : World) (hn : n ≤ 1048576) (hr : RowAt w a n (strAt S)) (hle : AllLeTo 1048576 (szAt S) n) (ht : Tabs w) :
    Calls Tryz.prog 10 #[.string s, .slice a n c] w (Finds w) := by
  have Hr := Lib.hid hr
  clear hr
  have Hle := Lib.hid hle
  clear hle
  go_enter Tryz.func10, Tryz.ntmps10
  go_wp2_with fail
  generalize hw3 : (((w.alloc _).alloc _).alloc _) = w3
  have hb3 : Below w.heap.size w w3 := by rw [← hw3]; exact (((Below.refl _ _).alloc (Nat.le_refl _) _).alloc (by simp) _).alloc (by simp; omega) _
  have hs3 : w3.heap.size = w.heap.size + 3 := by rw [← hw3]; simp
  have hk : K10 w w3 := by
    rw [← hw3]
    exact ⟨by rw [hw3]; exact hb3, by rw [hw3]; omega, by rw [Go.heap_alloc_old _ _ (by simp; omega), Go.heap_alloc_old _ _ (by simp)]; exact heap_alloc_new _ _, by have := heap_alloc2_new (w.alloc (.cells #[.string ByteArray.empty, .string ByteArray.empty, .string ByteArray.empty, .string ByteArray.empty, .int .u8 0, .string ByteArray.empty, .string ByteArray.empty, .string ByteArray.empty, .string ByteArray.empty, .int .u8 0, .bool false] 31)) (.cells Tryz.zeroCells113 113) (.cells #[.pointer (some ⟨w.heap.size + 1, 0, none⟩), .pointer none, .pointer none, .int .u8 0] 118); rw [World.size_alloc] at this; exact this⟩
  clear hw3 hb3
  have HK := Lib.hid hk
  clear hk hs3
  go_region_held3 (fun w' => K10 w w' ∧ w'.cell? ⟨w.heap.size + 1 + 1, 0, none⟩ = some (.pointer (some ⟨w.heap.size + 1, 0, none⟩)) ∧ w'.cell? ⟨w.heap.size + 1 + 1, 1, none⟩ = some (.pointer none) ∧ w'.cell? ⟨w.heap.size + 1 + 1, 2, none⟩ = some (.pointer none) ∧ w'.cell? ⟨w.heap.size + 1 + 1, 3, none⟩ = some (.int .u8 0)) (first | exact HK.out.drew.all | assumption | exact (K10.alloc (‹K10 w _ ∧ _›).1 _).all | exact (K10.call (‹K10 w _ ∧ _›).1 (by assumption)).all) (first | (go_at_call 12; refine (made_any s _).mono ?_; rintro e w' ⟨m, rfl, hm, hge, hb⟩) | (go_at_call 11; refine (load_box _ s _ a n c S w _ hn Hr.out Hle.out ht (‹K10 w _ ∧ _›).1 (by assumption)).mono ?_; rintro e w5 ⟨rfl, hb5⟩; unfold pp0) | (have hq := (‹K10 w _ ∧ _›).1; obtain ⟨c0, c1, c2, c3, c4, c5, c6, c7, c8, c9, c10⟩ := hq.cells; obtain ⟨s0, s1, s2, s3, s4, s5, s6, s7, s8, s9, s10⟩ := hq.sets; have hfz := hq.frozen; simp only [c0, c1, c2, c3, c4, c5, c6, c7, c8, c9, c10, s0, s1, s2, s3, s4, s5, s6, s7, s8, s9, s10, hfz, Bool.false_eq_true, if_false, Result.andThen_ok]))
  have HK6 := Lib.hid (‹K10 w _ ∧ _›).1
  go_wp2_with fail
  have hl := run_loadVar_row (P := Tryz.prog) _ w.heap.size 31 31 _ (0, 0) _ HK6.out.row Tryz.underlying31 rfl (by kernel_rfl)
  refine bodyPost_ret (v := .tuple #[pp0, .bool false, .pointer none]) ?_ rfl ⟨rfl, HK6.out.bel⟩
  simp [results, Tryz.results10, asAddr]
  exact congrArg (fun r : Result Value => r.andThen fun a w' => Result.ok (Value.tuple #[a, Value.bool false, Value.pointer none]) w') hl
end Go.Proofs.YthnfohpiiafciaaGreatFmt
