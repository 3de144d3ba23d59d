/- What FormatFloat reads, off the listed variables. -/
import Derived.Test.YtodlhjdogcpffaaDoorFmtFixed
import Derived.Lib.LaidU8
import Derived.MakeChecks
import Derived.DataShut
namespace Go.Proofs.YtodlhjdogcpffaaDoor
open Go.RowKit Go.ChangeShapes

theorem tab_of_laid {W : World} (h : Lib.VarReads Tryd.prog W "internal/strconv.uint64pow10" (Lib.tabData .u64 Lib.pow10Tab)) : Lib.TabIs Tryd.prog W "internal/strconv.uint64pow10" .u64 Lib.pow10Tab := by
  obtain ⟨g, t, cs, fuel, p, hg, hty, hvar, hd⟩ := h
  have hg2 : Tryd.prog.globalNamed "internal/strconv.uint64pow10" = some 3 := by kernel_rfl
  have ht2 : (Tryd.prog.globals[3]?).map (·.type) = some 118 := by kernel_rfl
  obtain rfl := Option.some.inj (hg2.symm.trans hg)
  obtain rfl := Option.some.inj (ht2.symm.trans hty)
  have hcs := Lib.cells_of_tab Tryd.underlying118 Tryd.underlying47 (by kernel_rfl) (by kernel_rfl) hd
  unfold Lib.TabIs
  rw [hvar, ← hcs]
theorem tab_below {W w' : World} (h : Lib.TabIs Tryd.prog W "internal/strconv.uint64pow10" .u64 Lib.pow10Tab) (hb : Below W.heap.size W w') : Lib.TabIs Tryd.prog w' "internal/strconv.uint64pow10" .u64 Lib.pow10Tab := by
  have hg : Tryd.prog.globalNamed "internal/strconv.uint64pow10" = some 3 := by kernel_rfl
  unfold Lib.TabIs World.var? at h ⊢
  rw [hg] at h ⊢
  simp only [Option.bind_some] at h ⊢
  have hlt : 3 < W.heap.size := by
    cases hx : W.heap[3]? with
    | none => rw [hx] at h; cases h
    | some x => exact (Array.getElem?_eq_some_iff.1 hx).1
  rw [hb.block _ hlt]
  exact h

theorem fmtVars_of {W : World} (h1 : Lib.VarReads Tryd.prog W "internal/strconv.pow10Tab" Go.Pinned.pow10Tab) (h2 : Lib.TabIs Tryd.prog W "internal/strconv.uint64pow10" .u64 Lib.pow10Tab) (h3 : W.cell? ⟨0, 0, none⟩ = some (.bool true)) : FmtVars W := by
  refine ⟨fun p hp1 hp5 => ?_, fun n hn => ?_, h3⟩
  · obtain ⟨g, t, cs, fuel, ps, hg, hty, hvar, hd⟩ := h1
    have hg2 : Tryd.prog.globalNamed "internal/strconv.pow10Tab" = some 6 := by kernel_rfl
    have ht2 : (Tryd.prog.globals[6]?).map (·.type) = some 152 := by kernel_rfl
    obtain rfl := Option.some.inj (hg2.symm.trans hg)
    obtain rfl := Option.some.inj (ht2.symm.trans hty)
    obtain ⟨fuel', d, q, hdi, he⟩ := Lib.array_elem Tryd.underlying152 hd (p + 348) (by omega)
    have hrow : ∀ i : Fin 5, (Go.Pinned.pow10Rows.map fun x => (x.1, x.2))[i.val + 349]? = some (powHi (i.val + 1), 0) := by decide +kernel
    have hr := hrow ⟨p - 1, by omega⟩
    simp only [List.getElem?_map, Option.map_eq_some_iff] at hr hdi
    obtain ⟨a, ha, hpair⟩ := hr
    obtain ⟨a', ha', hd'⟩ := hdi
    rw [show p - 1 + 349 = p + 348 by omega, ha'] at ha
    obtain rfl := Option.some.inj ha
    rw [show p - 1 + 1 = p by omega] at hpair
    simp only [Prod.mk.injEq] at hpair
    rw [hpair.1, hpair.2] at hd'
    subst hd'
    have hc2 : Tryd.prog.cellsOf 151 = 2 := by kernel_rfl
    rw [hc2] at he
    have hcs := Lib.ints_of_struct (zs := [(powHi p : Int), ((0 : Nat) : Int)]) Tryd.underlying151 (fun j f hj => by
      match j, hj with
      | 0, hj => simp at hj; subst hj; exact ⟨Tryd.underlying47, rfl, by kernel_rfl⟩
      | 1, hj => simp at hj; subst hj; exact ⟨Tryd.underlying47, rfl, by kernel_rfl⟩
      | j + 2, hj => simp at hj) (by rw [hc2]; rfl) he
    have e0 := congrArg (·[0]?) hcs
    have e1 := congrArg (·[1]?) hcs
    simp only [List.getElem?_take, List.getElem?_drop] at e0 e1
    constructor
    · rw [World.var?_cell hg hvar ((p + 348) * 2), ← Array.getElem?_toList]
      simpa using e0
    · rw [World.var?_cell hg hvar ((p + 348) * 2 + 1), ← Array.getElem?_toList]
      simpa using e1
  · have := Lib.TabIs.cell (g := 3) h2 (by kernel_rfl) n (by simp [Lib.pow10Tab_length]; omega)
    rw [this, Lib.pow10Tab_at n hn]
end Go.Proofs.YtodlhjdogcpffaaDoor
