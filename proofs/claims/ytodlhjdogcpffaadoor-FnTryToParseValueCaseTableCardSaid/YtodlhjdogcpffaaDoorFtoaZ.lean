/- ftoa64 at 'f' over nought; FormatFloat at 'f'. -/
import Derived.Test.YtodlhjdogcpffaaDoorFtoa
import Derived.Test.YtodlhjdogcpffaaDoorFmtZero
import Derived.Laws.IdiomStrings
namespace Go.Proofs.YtodlhjdogcpffaaDoor
open Go.RowKit

set_option maxRecDepth 100000 in
set_option maxHeartbeats 2000000 in
theorem ftoa_zero (k D : Nat) (w w0 : World) (ho : w.ownsRow w0.heap.size 5 1 (.slice (some ⟨D, 0, none⟩) 0 24) 0 []) (hb : Below w0.heap.size w0 w) (hk : 0 < k) (hk2 : k ≤ 4) :
    Calls Tryd.prog 35 #[.slice (some ⟨D, 0, none⟩) 0 24, .float .f64 0, .int .u8 102, .int .i64 k] w fun e w' => ∃ n, e = .returned (.slice (some ⟨D, 0, none⟩) n 24) ∧ OutZ D n ([48] ++ [46] ++ digs 0 k) w0 w' := by
  have hfb := run_tobits2
  have y1 : bits .and .i64 0 2047 = 0 := by decide +kernel
  have y2 : bits .and .u64 0 4503599627370495 = 0 := by decide +kernel
  have y3 : decide ((k : Int) < 0) = false := by simp
  have y4 : ¬ (k : Int) < 0 := by omega
  have HO := Lib.hid (And.intro ho hb)
  clear ho hb
  go_enter Tryd.func35, Tryd.ntmps35
  go_wp2_with fail
  go_quiet (fail)
  go_wp2_with fail
  refine (efg_zero k D w0 _ ⟨owns_below HO.out.1 (drewN_below _ _), HO.out.2.trans ((drewN_below _ _).mono HO.out.2.size)⟩ hk hk2).mono ?_
  rintro e w6 ⟨n6, rfl, ho6⟩
  have HO6 := Lib.hid ho6
  clear ho6
  go_wp2
  go_ret
  exact ⟨_, rfl, HO6.out⟩

theorem byte_info2 : ∃ i, Tryd.prog.info? 5 = some i ∧ i.zero = some (.int .u8 0) ∧ i.size = 1 ∧ i.bytes = 1 := by
  have h : (Tryd.prog.info? 5).map (fun i => (i.zero, i.size, i.bytes)) = some (some (.int .u8 0), 1, 1) := by kernel_rfl
  obtain ⟨i, h1, h2⟩ := Option.map_eq_some_iff.1 h
  simp only [Prod.mk.injEq] at h2
  exact ⟨i, h1, h2.1, h2.2.1, h2.2.2⟩
theorem OutZ.text {D n : Nat} {l : List UInt8} {w0 w : World} (h : OutZ D n l w0 w) : (convert 49 9 (.slice (some ⟨D, 0, none⟩) n 24)).run Tryd.prog w = .ok (.string ⟨l.toArray⟩) w := by
  have hl := h.base.2.2
  subst hl
  refine run_convert_bytes_back (P := Tryd.prog) w _ _ 5 ⟨D, 0, none⟩ 24 l Tryd.underlying49 Tryd.underlying5 Tryd.underlying9 (fun j hj => ?_)
  obtain ⟨h0, h1 | ⟨g, cap, cur, h1, h2, h5, h3, h4, h6, h7⟩⟩ := h.own
  · cases h1.1
  · simp only [Value.slice.injEq, Option.some.injEq, Addr.mk.injEq] at h1
    obtain ⟨⟨rfl, _⟩, _⟩ := h1
    have ha : (⟨D, 0, none⟩ : Addr).add j = ⟨D, j, none⟩ := by unfold Addr.add; split <;> simp_all
    rw [ha, cell_of_row _ _ _ _ _ _ h5, ← Array.getElem?_toList]
    have h8 : (cur.toList.take (l.length * 1))[j]? = (l.map byteV)[j]? := by rw [h7]
    rw [List.getElem?_take, if_pos (by omega)] at h8
    rw [h8]
    simp [hj, byteV]

/-- The text that FormatFloat gives of m/10^k with k decimals. -/
def fmtText (neg : Bool) (m k : Nat) : List UInt8 := if m = 0 then [48] ++ [46] ++ digs 0 k else fixText neg m k

set_option maxRecDepth 100000 in
set_option maxHeartbeats 2000000 in
theorem format_any (v : Nat) (neg : Bool) (m k : Nat) (w : World) (hk : 0 < k) (hk2 : k ≤ 4)
    (h : ∀ D wx, wx.ownsRow w.heap.size 5 1 (.slice (some ⟨D, 0, none⟩) 0 24) 0 [] → Below w.heap.size w wx → Calls Tryd.prog 35 #[.slice (some ⟨D, 0, none⟩) 0 24, .float .f64 v, .int .u8 102, .int .i64 k] wx fun e w' => ∃ n, e = .returned (.slice (some ⟨D, 0, none⟩) n 24) ∧ OutZ D n (fmtText neg m k) w w') :
    Calls Tryd.prog 30 #[.float .f64 v, .int .u8 102, .int .i64 k, .int .i64 64] w fun e w' => e = .returned (.string ⟨(fmtText neg m k).toArray⟩) ∧ Below w.heap.size w w' := by
  have HF := Lib.hid h
  clear h
  obtain ⟨s, hs⟩ : ∃ s : ByteArray, s = ⟨(fmtText neg m k).toArray⟩ := ⟨_, rfl⟩
  rw [← hs]
  have HS := Lib.hid hs
  clear hs
  have hmx : max ((k : Int) + 4) 24 = 24 := by omega
  go_enter Tryd.func30, Tryd.ntmps30
  obtain ⟨i0, hi0, hi1, hi2, hi3⟩ := byte_info2
  go_wp2_with (refine wpList_make_own _ rfl _ _ 49 rfl w.heap.size 5 i0 (.int .u8 0) 1 Tryd.underlying49 hi0 hi1 hi2 .i64 .i64 24 24 rfl rfl rfl (by rw [hi3]; decide) (by decide) (Nat.le_refl _) ?_)
  intro w1 ho1 hg1
  have H1 := Lib.hid (And.intro ho1 ((Below.refl w.heap.size w).grown hg1 (Nat.le_refl _) (by simp)))
  clear ho1 hg1
  go_wp2_with fail
  refine (HF.out _ _ H1.out.1 H1.out.2).mono ?_
  rintro e w2 ⟨n, rfl, ho⟩
  have htx := ho.text
  rw [← HS.out] at htx
  have HO := Lib.hid ho
  clear ho
  go_wp2
  go_ret
  exact ⟨rfl, HO.out.bel⟩

set_option maxRecDepth 100000 in
theorem sformat_any (v : Nat) (k : Nat) (s : ByteArray) (w : World) (h : Calls Tryd.prog 30 #[.float .f64 v, .int .u8 102, .int .i64 k, .int .i64 64] w fun e w' => e = .returned (.string s) ∧ Below w.heap.size w w') :
    Calls Tryd.prog 22 #[.float .f64 v, .int .u8 102, .int .i64 k, .int .i64 64] w fun e w' => e = .returned (.string s) ∧ Below w.heap.size w w' := by
  have HF := Lib.hid h
  clear h
  go_enter Tryd.func22, Tryd.ntmps22
  go_wp2_with (go_at_call 30; refine HF.out.mono ?_; rintro e w1 ⟨rfl, hb1⟩)
  go_ret
  exact ⟨rfl, hb1⟩
end Go.Proofs.YtodlhjdogcpffaaDoor
