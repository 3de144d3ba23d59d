/- Law 6's walk. -/
import Derived.Test.YtgdkncphmbdpjaaDoorP9
import Derived.DataShut
namespace Go.Proofs.YtgdkncphmbdpjaaDoor
open Go.RowKit

theorem Spells.size {p : Int} {t : ByteArray} (h : Spells p t) : t.size ≤ 64 := by
  have := h.plain.few
  generalize (decide (p < 0)) = b at this
  cases b <;> simp at this <;> omega

set_option maxRecDepth 100000 in
set_option maxHeartbeats 2000000 in
theorem law2_any (p : Int) (y1 y2 : Nat) (w : World) (h1 : -2147483648 ≤ p) (h2 : p ≤ 2147483647) (hv : FltVars w) : Calls Tryd.prog 4 #[.int .i32 p, .float .f64 y1, .float .f64 y2] w (LawOk w) := by
  have hw1 : wrap64 p = p := by unfold wrap64; omega
  obtain ⟨n, hn, hc⟩ := perc_clamp p h1 h2
  have HI := Lib.hid (itoa_any p w h1 h2)
  have HV := Lib.hid hv
  have HZ := Lib.hid (fun t y wx ht hv' => zz11_perc t p n y wx ht hv' hn)
  have HB := Lib.hid (fun wx => percentByte_any p wx h1 h2)
  clear hn hv
  unfold Taken at HZ
  go_enter Tryd.func4, Tryd.ntmps4
  go_wp2_with fail
  refine HI.out.mono ?_
  rintro e w1 ⟨t, rfl, ht, hb1⟩
  have hts := ht.size
  have HT := Lib.hid ht
  clear ht
  go_wp2_with fail
  refine (HZ.out t y1 w1 HT.out (HV.out.below hb1)).mono ?_
  rintro e w2 ⟨rfl, hb2⟩
  go_wp2_with fail
  refine (HZ.out t y2 w2 HT.out ((HV.out.below hb1).below hb2)).mono ?_
  rintro e w3 ⟨rfl, hb3⟩
  have hbl := (hb1.trans (hb2.mono hb1.size)).trans (hb3.mono (Nat.le_trans hb1.size hb2.size))
  go_wp2_with fail
  refine (HB.out _).mono ?_
  rintro e w4 ⟨rfl, rfl⟩
  rcases hc with hc | hc
  · go_wp2
    go_ret
    exact ⟨rfl, hbl⟩
  · go_wp2
    all_goals go_ret
    all_goals exact ⟨rfl, hbl⟩

theorem law2_wf (p : Int) (y1 y2 : Nat) (W : World) (hp : (Lit.int .i32 p).wf = true) (_h1 : (Lit.float .f64 y1).wf = true) (_h2 : (Lit.float .f64 y2).wf = true) (hv : FltVars W) : Calls Tryd.prog 4 #[.int .i32 p, .float .f64 y1, .float .f64 y2] W (LawOk W) := by
  have a := (Lit.wf_int_iff .i32 p).1 hp
  have e1 : IntKind.i32.min = -2147483648 := by decide
  have e2 : IntKind.i32.max = 2147483647 := by decide
  rw [e1, e2] at a
  exact law2_any p y1 y2 W a.1 a.2 hv
end Go.Proofs.YtgdkncphmbdpjaaDoor
