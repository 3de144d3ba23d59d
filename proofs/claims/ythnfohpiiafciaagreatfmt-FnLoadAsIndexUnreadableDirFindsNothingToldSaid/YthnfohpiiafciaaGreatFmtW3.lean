/- Walks for the laws on loadAsIndex: the loop over the extensions. -/
import Derived.Test.YthnfohpiiafciaaGreatFmtW2
import Derived.Laws.CopyOwn
namespace Go.Proofs.YthnfohpiiafciaaGreatFmt
open Go.RowKit

def pp0 : Value := .agg #[.string ByteArray.empty, .string ByteArray.empty, .string ByteArray.empty, .string ByteArray.empty, .int .u8 0, .string ByteArray.empty, .string ByteArray.empty, .string ByteArray.empty, .string ByteArray.empty, .int .u8 0, .bool false]

def Finds (w : World) (e : Ending) (w' : World) : Prop := e = .returned (.tuple #[pp0, .bool false, .pointer none]) ∧ Below w.heap.size w w'

set_option maxRecDepth 100000 in
set_option maxHeartbeats 400000 in
theorem load_nil (x : Option Addr) (bd : Nat) (d : ByteArray) (v : Value) (a : Option Addr) (n c : Nat) (S : Nat → ByteArray) (w : World) (hn : n ≤ 1048576) (hr : RowAt w a n (strAt S)) (hle : AllLeTo 1048576 (szAt S) n)
    (hd4 : w.cell? ⟨bd, 4, none⟩ = some (.map none)) (hd5 : w.cell? ⟨bd, 5, none⟩ = some v) (hd6 : w.cell? ⟨bd, 6, none⟩ = some (.string d)) :
    Calls Tryz.prog 11 #[.agg #[.pointer x, .pointer none, .pointer none, .int .u8 0], .pointer (some ⟨bd, 0, none⟩), .slice a n c] w (Finds w) := by
  have Hr := Lib.hid hr
  clear hr
  have Hle := Lib.hid hle
  clear hle
  have H4 := Lib.hid hd4
  have H5 := Lib.hid hd5
  have H6 := Lib.hid hd6
  clear hd4 hd5 hd6
  go_enter Tryz.func11, Tryz.ntmps11
  go_wp2_with fail
  generalize hw2 : ((w.alloc _).alloc _) = w2
  have hb2 : Below w.heap.size w w2 := by rw [← hw2]; exact ((Below.refl _ _).alloc (Nat.le_refl _) _).alloc (by simp) _
  have hs2 : w2.heap.size = w.heap.size + 2 := by rw [← hw2]; simp
  have hf2 : w2.cell? ⟨w.heap.size, 2, none⟩ = some (.pointer none) := by rw [← hw2]; simp
  have ho2 : w2.heap[w.heap.size + 1]? = some (.cells #[.string ByteArray.empty, .string ByteArray.empty, .string ByteArray.empty, .string ByteArray.empty, .int .u8 0, .string ByteArray.empty, .string ByteArray.empty, .string ByteArray.empty, .string ByteArray.empty, .int .u8 0, .bool false] 31 (0, 0)) := by rw [← hw2]; exact heap_alloc2_new _ _ _
  clear hw2
  have Hs2 := Lib.hid hs2
  have Hf2 := Lib.hid hf2
  have Ho2 := Lib.hid ho2
  clear hs2 hf2 ho2
  go_loopw [16] (fun i wr => ∃ k : Nat, k ≤ n ∧ i = .int .i64 k ∧ Below w2.heap.size w2 wr) (fun i _ => n - (intOf i).toNat)
  case atStart => exact ⟨0, Nat.zero_le _, rfl, Below.refl _ _⟩
  case round =>
    obtain ⟨k, hk, rfl, hb⟩ := hrel
    have hs := hb.size
    by_cases hlt : k < n
    · obtain ⟨b, o, ha, hbl, h2⟩ := Hr.out.blk (by omega)
      have hbd : bd < w.heap.size := block_lt_of_cell (H4.out)
      have h3 := ((hb2.trans (hb.mono (by rw [Hs2.out]; omega))).cell (p := ⟨b, o + k, none⟩) hbl).trans (h2 k hlt)
      have h4 := ((hb2.trans (hb.mono (by rw [Hs2.out]; omega))).cell (p := ⟨bd, 4, none⟩) hbd).trans H4.out
      have h5 := ((hb2.trans (hb.mono (by rw [Hs2.out]; omega))).cell (p := ⟨bd, 5, none⟩) hbd).trans H5.out
      have h6 := ((hb2.trans (hb.mono (by rw [Hs2.out]; omega))).cell (p := ⟨bd, 6, none⟩) hbd).trans H6.out
      have hsz := Hle.out k hlt
      have h7 := (hb.cell (p := ⟨w.heap.size, 2, none⟩) (by rw [Hs2.out]; simp)).trans Hf2.out
      clear h2
      subst ha
      simp only [strAt, szAt] at h3 hsz
      generalize hx : S k = x at h3 hsz
      clear hx
      go_wp2_with (go_at_call 13; refine (get_nil _ _ _ _).mono ?_; rintro e w' ⟨rfl, hbn⟩; have h8 := (hbn.cell (p := ⟨w.heap.size, 2, none⟩) (by simp only; have := Hs2.out; omega)).trans h7)
      exact ⟨⟨k + 1, by omega, by go_num, hb.trans (hbn.mono hs)⟩, by simp [intOf]; omega⟩
    · have ho := (hb.block (w.heap.size + 1) (by rw [Hs2.out]; omega)).trans Ho2.out
      have HO := Lib.hid ho
      clear ho
      go_wp2_with (refine wpList_store_row rfl 31 _ _ rfl (w.heap.size + 1) _ rfl rfl 31 _ HO.out (by kernel_rfl) rfl (by kernel_rfl) ?_)
      have hr := setRow_heap wr (w.heap.size + 1) _ #[.string ByteArray.empty, .string ByteArray.empty, .string ByteArray.empty, .string ByteArray.empty, .int .u8 0, .string ByteArray.empty, .string ByteArray.empty, .string ByteArray.empty, .string ByteArray.empty, .int .u8 0, .bool false] 31 (0, 0) HO.out
      have hl := run_loadVar_row (P := Tryz.prog) _ (w.heap.size + 1) 31 31 _ (0, 0) _ hr Tryz.underlying31 rfl (by kernel_rfl)
      refine bodyPost_ret (v := .tuple #[pp0, .bool false, .pointer none]) ?_ rfl ⟨rfl, ?_⟩
      · simp [results, Tryz.results11, asAddr]
        exact congrArg (fun r : Result Value => r.andThen fun a w' => Result.ok (Value.tuple #[a, Value.bool false, Value.pointer none]) w') hl
      · exact below_setRow (hb2.trans (hb.mono (by rw [Hs2.out]; omega))) (by omega) _

set_option maxRecDepth 100000 in
set_option maxHeartbeats 400000 in
theorem zz_nil (s : ByteArray) (a : Option Addr) (n c : Nat) (S : Nat → ByteArray) (w : World) (hn : n ≤ 1048576) (hr : RowAt w a n (strAt S)) (hle : AllLeTo 1048576 (szAt S) n) :
    Calls Tryz.prog 8 #[.string s, .slice a n c] w (Finds w) := by
  have Hr := Lib.hid hr
  clear hr
  have Hle := Lib.hid hle
  clear hle
  go_enter Tryz.func8, Tryz.ntmps8
  go_wp2_with fail
  generalize hw4 : ((((w.alloc _).alloc _).alloc _).alloc _) = w4
  have hb4 : Below w.heap.size w w4 := by rw [← hw4]; exact ((((Below.refl _ _).alloc (Nat.le_refl _) _).alloc (by simp) _).alloc (by simp; omega) _).alloc (by simp; omega) _
  have hs4 : w4.heap.size = w.heap.size + 4 := by rw [← hw4]; simp
  have hc4 : w4.cell? ⟨w.heap.size + 1 + 1 + 1, 4, none⟩ = some (.map none) ∧ w4.cell? ⟨w.heap.size + 1 + 1 + 1, 5, none⟩ = some (.pointer none) ∧ w4.cell? ⟨w.heap.size + 1 + 1 + 1, 6, none⟩ = some (.string ByteArray.empty) := by
    rw [← hw4]; refine ⟨?_, ?_, ?_⟩ <;> (rw [World.cell?_alloc_at _ _ _ _ (by simp)]; rfl)
  have ho4 : w4.heap[w.heap.size]? = some (.cells #[.string ByteArray.empty, .string ByteArray.empty, .string ByteArray.empty, .string ByteArray.empty, .int .u8 0, .string ByteArray.empty, .string ByteArray.empty, .string ByteArray.empty, .string ByteArray.empty, .int .u8 0, .bool false] 31 (0, 0)) := by
    rw [← hw4]
    rw [Go.heap_alloc_old _ _ (by simp; omega), Go.heap_alloc_old _ _ (by simp; omega), Go.heap_alloc_old _ _ (by simp)]
    exact heap_alloc_new _ _
  clear hw4
  have Hc4 := Lib.hid hc4
  have Hs4 := Lib.hid hs4
  have Ho4 := Lib.hid ho4
  clear hc4 hs4 ho4
  refine (load_nil _ _ _ _ _ _ _ S w4 hn (Hr.out.below hb4) Hle.out Hc4.out.1 Hc4.out.2.1 Hc4.out.2.2).mono ?_
  rintro e w5 ⟨rfl, hb5⟩
  have HO := Lib.hid ((hb5.block w.heap.size (by rw [Hs4.out]; omega)).trans Ho4.out)
  go_wp2_with (refine wpList_store_row rfl 31 _ _ rfl w.heap.size _ rfl rfl 31 _ HO.out (by kernel_rfl) rfl (by kernel_rfl) ?_)
  have hr := setRow_heap w5 w.heap.size _ #[.string ByteArray.empty, .string ByteArray.empty, .string ByteArray.empty, .string ByteArray.empty, .int .u8 0, .string ByteArray.empty, .string ByteArray.empty, .string ByteArray.empty, .string ByteArray.empty, .int .u8 0, .bool false] 31 (0, 0) HO.out
  have hl := run_loadVar_row (P := Tryz.prog) _ w.heap.size 31 31 _ (0, 0) _ hr Tryz.underlying31 rfl (by kernel_rfl)
  refine bodyPost_ret (v := .tuple #[pp0, .bool false, .pointer none]) ?_ rfl ⟨rfl, ?_⟩
  · simp [results, Tryz.results8, asAddr]
    exact congrArg (fun r : Result Value => r.andThen fun a w' => Result.ok (Value.tuple #[a, Value.bool false, Value.pointer none]) w') hl
  · exact below_setRow (hb4.trans (hb5.mono (by rw [Hs4.out]; omega))) (by omega) _
end Go.Proofs.YthnfohpiiafciaaGreatFmt
