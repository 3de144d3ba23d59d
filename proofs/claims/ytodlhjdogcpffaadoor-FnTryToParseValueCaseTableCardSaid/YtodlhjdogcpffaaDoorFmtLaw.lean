/- formatFloat of m/10^d with d decimals. -/
import Derived.Test.YtodlhjdogcpffaaDoorFmtEq
import Derived.Test.YtodlhjdogcpffaaDoorFmtLaid
import Derived.Test.YtodlhjdogcpffaaDoorPow10
namespace Go.Proofs.YtodlhjdogcpffaaDoor
open Go.RowKit

/-- The word of M/10^d, nought of nought. -/
def fword (neg : Bool) (M d : Nat) : Nat := if M = 0 then 0 else fdec neg M d

theorem format_dec (neg : Bool) (M d : Nat) (w : World) (hd1 : 1 ≤ d) (hd : d ≤ 4) (hM : M ≤ 1099511627776) (hv : FmtVars w) (ht : Lib.TabIs Tryd.prog w "internal/strconv.uint64pow10" .u64 Lib.pow10Tab) :
    Calls Tryd.prog 30 #[.float .f64 (fword neg M d), .int .u8 102, .int .i64 d, .int .i64 64] w fun e w' => e = .returned (.string ⟨(fmtText neg M d).toArray⟩) ∧ Below w.heap.size w w' := by
  refine format_any (fword neg M d) neg M d w hd1 hd (fun D wx ho hb => ?_)
  unfold fword
  by_cases h0 : M = 0
  · subst h0
    rw [if_pos rfl]
    refine (ftoa_zero d D wx w ho hb hd1 hd).mono ?_
    rintro e w' ⟨n, rfl, h⟩
    exact ⟨n, rfl, by unfold fmtText; rw [if_pos rfl]; exact h⟩
  · rw [if_neg h0]
    obtain ⟨S, E, t, h1, h2, h3, h4, h5, h6, h7⟩ := fdec_fields neg M d (by omega) (by omega) hd1 (by omega)
    rw [h1]
    refine (ftoa_any neg S E t M d D wx w (hv.below hb) (fun wy hby => tab_below (tab_below ht hb) hby) ho hb h2 h3 h4 h5 hd1 hd (by omega) hM h6 h7).mono ?_
    rintro e w' ⟨n, B, rfl, h⟩
    exact ⟨n, rfl, by unfold fmtText; rw [if_neg h0]; exact h.less⟩

theorem ff_dec (neg : Bool) (M d : Nat) (w : World) (hd1 : 1 ≤ d) (hd : d ≤ 4) (hM : M ≤ 1099511627776) (h0 : M = 0 → neg = false) (hv : FmtVars w) (ht : Lib.TabIs Tryd.prog w "internal/strconv.uint64pow10" .u64 Lib.pow10Tab) :
    Calls Tryd.prog 15 #[.agg #[.float .f64 (fword neg M d)], .int .i64 d] w fun e w' => ∃ r, e = .returned (.string r) ∧ Struck (txt (fixText neg M d)) r ∧ Below w.heap.size w w' := by
  have hN : Lib.nDigits M ≤ 13 := nDigits_le M 13 (by omega) (by omega)
  have hlen : (fixText neg M d).length ≤ 100 := by
    unfold fixText
    cases neg <;> simp [digs_length] <;> split <;> simp [digs_length] <;> omega
  have hdot : ∃ i, ∃ h : i < (txt (fixText neg M d)).size, (txt (fixText neg M d))[i].toNat ≠ 48 := by
    unfold fixText
    generalize (if neg then [45] else []) ++ (if d < Lib.nDigits M then digs (M / 10 ^ d) (Lib.nDigits M - d) else [48]) = H
    refine ⟨H.length, by rw [txt_size]; simp, ?_⟩
    rw [txt_get, List.getElem_append_left (by simp), List.getElem_append_right (by omega)]
    simp
  refine ff_any (fword neg M d) d (txt (fixText neg M d)) w (by rw [txt_size]; omega) hdot (fun wx hb => ?_)
  refine sformat_any _ d _ wx ?_
  have := format_dec neg M d wx hd1 hd hM (hv.below hb) (tab_below ht hb)
  rw [fmtText_fix M d neg hd1 h0] at this
  exact this

set_option maxRecDepth 100000 in
theorem newf_any (v : Nat) (w : World) : Calls Tryd.prog 16 #[.float .f64 v] w fun e w' => e = .returned (.agg #[.float .f64 v]) ∧ Below w.heap.size w w' := by
  go_enter Tryd.func16, Tryd.ntmps16
  have hh := heap_alloc_new w (.cells #[.float .f64 0] 45)
  have HH := Lib.hid hh
  clear hh
  go_wp2_with (refine wpList_store_row rfl 45 _ _ rfl w.heap.size _ rfl rfl 45 _ HH.out (by kernel_rfl) rfl (by kernel_rfl) ?_)
  have hr := setRow_heap (w.alloc (.cells #[.float .f64 0] 45)) w.heap.size _ #[.float .f64 v] 45 (0, 0) HH.out
  refine bodyPost_ret (results_cell_row rfl _ _ w.heap.size 45 _ (0, 0) _ rfl hr Tryd.underlying45 rfl (by kernel_rfl)) rfl ⟨rfl, ?_⟩
  exact below_setRow ((Below.refl _ _).alloc (Nat.le_refl _) _) (Nat.le_refl _) _

set_option maxRecDepth 100000 in
set_option maxHeartbeats 1000000 in
theorem zzff_dec (neg : Bool) (M d : Nat) (w : World) (hd1 : 1 ≤ d) (hd : d ≤ 4) (hM : M ≤ 1099511627776) (h0 : M = 0 → neg = false) (hv : FmtVars w) (ht : Lib.TabIs Tryd.prog w "internal/strconv.uint64pow10" .u64 Lib.pow10Tab) :
    Calls Tryd.prog 8 #[.float .f64 (fword neg M d), .int .i64 d] w fun e w' => ∃ r, e = .returned (.string r) ∧ Struck (txt (fixText neg M d)) r ∧ Below w.heap.size w w' := by
  have HF := Lib.hid (fun wx (hb : Below w.heap.size w wx) => ff_dec neg M d wx hd1 hd hM h0 (hv.below hb) (tab_below ht hb))
  clear h0 hv ht
  generalize fword neg M d = v at *
  go_enter Tryd.func8, Tryd.ntmps8
  go_wp2_with fail
  refine (newf_any v w).mono ?_
  rintro e w1 ⟨rfl, hb1⟩
  have H1 := Lib.hid hb1
  clear hb1
  go_wp2_with fail
  refine (HF.out _ H1.out).mono ?_
  rintro e w2 ⟨r, rfl, hr, hb2⟩
  have H2 := Lib.hid (And.intro hr (H1.out.trans (hb2.mono H1.out.size)))
  clear hr hb2
  go_wp2
  go_ret
  exact ⟨r, rfl, H2.out⟩
end Go.Proofs.YtodlhjdogcpffaaDoor
