/- FnFormatFloatDecimalFractionsExact: the walk. -/
import Derived.Test.YtodlhjdogcpffaaDoorFmtLaw
namespace Go.Proofs.YtodlhjdogcpffaaDoor
open Go.RowKit

theorem quo_word (m : Int) (d : Nat) (hd1 : 1 ≤ d) (hd : d ≤ 4) (hM : m.natAbs ≤ 1099511627776) : floatBits .quo .f64 (floatOfInt .f64 m) (fint false (10 ^ d)) = some (fword (decide (m < 0)) m.natAbs d) := by
  have e : floatOfInt .f64 m = fint (decide (m < 0)) m.natAbs := rfl
  rw [e]
  unfold fword
  by_cases h0 : m.natAbs = 0
  · have : m = 0 := by omega
    rw [if_pos h0]
    subst this
    have hd4 : d = 1 ∨ d = 2 ∨ d = 3 ∨ d = 4 := by omega
    rcases hd4 with rfl | rfl | rfl | rfl <;> decide +kernel
  · rw [if_neg h0]
    exact fdec_quo _ _ d (by omega) (by omega) hd1 (by omega)
theorem dec_all (m : Int) (d : Nat) (w : World) (hd1 : 1 ≤ d) (hd : d ≤ 4) (hM : m.natAbs < 1000000000000000000) : Calls Tryd.prog 9 #[.int .i64 m, .int .i64 d] w fun e w' => ∃ s, e = .returned (.string s) ∧ Shown (decide (m < 0)) m.natAbs d s ∧ Below w.heap.size w w' := by
  rcases Int.lt_trichotomy m 0 with h | h | h
  · obtain ⟨M, rfl⟩ : ∃ M : Nat, m = -(M : Int) := ⟨m.natAbs, by omega⟩
    have e1 : decide (-(M : Int) < 0) = true := by simp; omega
    have e2 : (-(M : Int)).natAbs = M := by omega
    rw [e1, e2]
    exact dec_neg M d w hd1 hd (by omega) (by omega)
  · subst h
    exact dec_zero d w hd1 hd
  · obtain ⟨M, rfl⟩ : ∃ M : Nat, m = (M : Int) := ⟨m.natAbs, by omega⟩
    have e1 : decide ((M : Int) < 0) = false := by simp
    have e2 : ((M : Int)).natAbs = M := by omega
    rw [e1, e2]
    exact dec_pos M d w hd1 hd (by omega) (by omega)

set_option maxRecDepth 100000 in
set_option maxHeartbeats 1000000 in
theorem law3_in (m : Int) (d : Nat) (w : World) (hd1 : 1 ≤ d) (hd : d ≤ 4) (h1 : -1099511627776 ≤ m) (h2 : m ≤ 1099511627776) (hv : FmtVars w) (ht : Lib.TabIs Tryd.prog w "internal/strconv.uint64pow10" .u64 Lib.pow10Tab) : Calls Tryd.prog 3 #[.int .i64 m, .int .i64 d] w (LawOk w) := by
  have hq := quo_word m d hd1 hd (by omega)
  have hqu := fun (ty : TypeId) (wx : World) => run_float_arith (P := Tryd.prog) wx .quo ty .f64 _ _ _ hq
  clear hq
  have HP := Lib.hid (fun wx => pow10_any d wx (by omega))
  have HF := Lib.hid (fun wx (hb : Below w.heap.size w wx) => zzff_dec (decide (m < 0)) m.natAbs d wx hd1 hd (by omega) (fun h => by simp; omega) (hv.below hb) (tab_below ht hb))
  have HD := Lib.hid (fun wx => dec_all m d wx hd1 hd (by omega))
  have HE := Lib.hid (fun r s => struck_shown (decide (m < 0)) m.natAbs d r s hd1)
  clear hv ht
  have q1 : ¬ (d : Int) < 1 := by omega
  have q2 : ¬ (4 : Int) < d := by omega
  have q3 : ¬ (1099511627776 : Int) < m := by omega
  have q4 : ¬ m < (-1099511627776 : Int) := by omega
  generalize fint false (10 ^ d) = X at *
  generalize fword (decide (m < 0)) m.natAbs d = V at *
  go_enter Tryd.func3, Tryd.ntmps3
  go_wp2_with fail
  refine (HP.out _).mono ?_
  rintro e w1 ⟨rfl, rfl⟩
  go_wp2_with fail
  refine (HF.out _ (Below.refl _ _)).mono ?_
  rintro e w2 ⟨r, rfl, hr, hb2⟩
  have H2 := Lib.hid (And.intro hr hb2)
  clear hr hb2
  go_wp2_with fail
  refine (HD.out _).mono ?_
  rintro e w3 ⟨s, rfl, hs, hb3⟩
  obtain rfl := HE.out r s H2.out.1 hs
  have H3 := Lib.hid (H2.out.2.trans (hb3.mono H2.out.2.size))
  clear hs hb3
  go_wp2
  go_ret
  exact ⟨rfl, H3.out⟩

set_option maxRecDepth 100000 in
set_option maxHeartbeats 1000000 in
theorem law3_wf (m d : Int) (W : World) (_hm : (Lit.int .i64 m).wf = true) (_hd : (Lit.int .i64 d).wf = true) (hv : FmtVars W) (ht : Lib.TabIs Tryd.prog W "internal/strconv.uint64pow10" .u64 Lib.pow10Tab) : Calls Tryd.prog 3 #[.int .i64 m, .int .i64 d] W (LawOk W) := by
  by_cases g1 : d < 1
  · go_enter Tryd.func3, Tryd.ntmps3
    go_wp2
    go_ret
    exact ⟨rfl, Below.refl _ _⟩
  by_cases g2 : 4 < d
  · go_enter Tryd.func3, Tryd.ntmps3
    go_wp2
    go_ret
    exact ⟨rfl, Below.refl _ _⟩
  by_cases g3 : 1099511627776 < m
  · go_enter Tryd.func3, Tryd.ntmps3
    go_wp2
    go_ret
    exact ⟨rfl, Below.refl _ _⟩
  by_cases g4 : m < -1099511627776
  · go_enter Tryd.func3, Tryd.ntmps3
    go_wp2
    go_ret
    exact ⟨rfl, Below.refl _ _⟩
  obtain ⟨k, rfl⟩ : ∃ k : Nat, d = (k : Int) := ⟨d.natAbs, by omega⟩
  exact law3_in m k W (by omega) (by omega) (by omega) (by omega) hv ht
theorem opt_of_laid {W : World} (h : Lib.VarReads Tryd.prog W "internal/strconv.optimize" (.lit (.bool true))) : W.cell? ⟨0, 0, none⟩ = some (.bool true) := by
  obtain ⟨g', t', cs, fuel, p, h1, h2, h3, h4⟩ := h
  have hg : Tryd.prog.globalNamed "internal/strconv.optimize" = some 0 := by kernel_rfl
  have ht : (Tryd.prog.globals[0]?).map (·.type) = some 4 := by kernel_rfl
  obtain rfl := Option.some.inj (hg.symm.trans h1)
  obtain rfl := Option.some.inj (ht.symm.trans h2)
  obtain ⟨b, hb, hx⟩ := DataW.trod_bool Tryd.underlying4 h4
  have e0 := congrArg Prod.fst hx
  simp only [DataW.lit.injEq, Lit.bool.injEq] at e0
  rw [World.var?_cell hg h3 0]
  obtain ⟨l⟩ := cs
  simp only at hb
  subst hb
  simp [← e0]
end Go.Proofs.YtodlhjdogcpffaaDoor
