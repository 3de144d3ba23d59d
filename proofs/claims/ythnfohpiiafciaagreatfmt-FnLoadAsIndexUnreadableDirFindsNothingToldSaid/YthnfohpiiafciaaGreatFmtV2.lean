/- Walks over the listing made empty: Get, loadAsIndex. -/
import Derived.Test.YthnfohpiiafciaaGreatFmtW3
import Derived.Test.YthnfohpiiafciaaGreatFmtShelf
import Derived.Deep.RegionHeld3
import Derived.Maps.Own
namespace Go.Proofs.YthnfohpiiafciaaGreatFmt
open Go.RowKit

/-- What the case tables' readers ask of the world. -/
def Tabs (w : World) : Prop := Lib.CaseVar 0 Lib.caseA w ∧ Lib.Utf8Tabs 2 3 w
theorem Tabs.below {w w' : World} (h : Tabs w) (hb : Below w.heap.size w w') : Tabs w' :=
  ⟨Lib.CaseVar_below h.1 hb, fun c hc => (hb.cell (block_lt_of_cell (h.2.1 c hc))).trans (h.2.1 c hc), fun i hi => ⟨(hb.cell (block_lt_of_cell (h.2.2 i hi).1)).trans (h.2.2 i hi).1, (hb.cell (block_lt_of_cell (h.2.2 i hi).2)).trans (h.2.2 i hi).2⟩⟩

theorem lookup_empty (w : World) (m : Nat) (key : ByteArray) (hm : w.heap[m]? = some (.map #[] 0)) : (Instr.lookup 121 (.map (some m)) (.string key) false).run Tryz.prog w = .ok (.pointer none) w := by
  have hz : (zeroValue 129).run Tryz.prog w = .ok (.pointer none) w := by kernel_rfl
  have hc : (Instr.checkKey true 10000 9 (.string key)).run Tryz.prog w = .ok () w := by kernel_rfl
  have hf : (Instr.findKey 9 (.string key) []).run Tryz.prog w = .ok none w := by kernel_rfl
  simp [Instr.lookup, run_underlying Tryz.underlying121, getObj, Sem.run, hm, hc, hf, hz]

set_option maxRecDepth 100000 in
set_option maxHeartbeats 1000000 in
theorem get_empty (m : Nat) (d q : ByteArray) (w : World) (hq : q.size ≤ 2097152) (hm : w.heap[m]? = some (.map #[] 0)) (ht : Tabs w) :
    Calls Tryz.prog 13 #[.agg #[.map (some m), .pointer none, .string d], .string q] w fun e w' => e = .returned (.tuple #[.pointer none, .pointer none]) ∧ Below w.heap.size w w' := by
  have hm1 := fun (wx : World) => run_neq_map_nil (P := Tryz.prog) wx 121 9 129 (some m) Tryz.underlying121
  have HT := Lib.hid (ht.below ((Below.refl _ _).alloc (Nat.le_refl _) (.cells #[.map (some m), .pointer none, .string d] 124)))
  have HM := Lib.hid hm
  clear ht hm
  go_enter Tryz.func13, Tryz.ntmps13
  go_wp2_with fail
  refine (Tryz.strings_ToLower_any q _ (by omega) HT.out.1 HT.out.2).mono ?_
  rintro e w1 ⟨rfl, hb1⟩
  have c : ∀ j, w1.cell? ⟨w.heap.size, j, none⟩ = _ := fun j => hb1.cell (p := ⟨w.heap.size, j, none⟩) (by simp)
  have c0 := c 0
  have c1 := c 1
  have c2 := c 2
  clear c
  simp at c0 c1 c2
  have hml : m < w.heap.size := (Array.getElem?_eq_some_iff.1 HM.out).1
  have hL := fun k => lookup_empty w1 m k ((hb1.block m (by simp; omega)).trans ((Below.heap_alloc w _ m hml).trans HM.out))
  have hz := hb1.size
  simp at hz
  go_wp2
  go_ret2
  exact ⟨rfl, ((Below.refl _ _).alloc (Nat.le_refl _) _).trans (hb1.mono (by simp))⟩
end Go.Proofs.YthnfohpiiafciaaGreatFmt
