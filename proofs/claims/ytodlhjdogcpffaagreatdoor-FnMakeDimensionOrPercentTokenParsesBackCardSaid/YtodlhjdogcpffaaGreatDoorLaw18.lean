/- FnMakeDimensionOrPercentTokenParsesBack: the walk. -/
import Derived.Test.YtodlhjdogcpffaaGreatDoorZzttv
namespace Go.Proofs.YtodlhjdogcpffaaGreatDoor
open Go.RowKit

set_option maxHeartbeats 1000000 in
theorem zz18 (m kind : Int) (unit : ByteArray) (w : World) (hs : unit.size ≤ maxLen) : Calls Tryz.prog 4 #[.int .i64 m, .string unit, .int .u8 kind] w (BoolIf (unit.size ≤ 1048576) w) := by
  unfold maxLen at hs
  go_enter Tryz.func4, Tryz.ntmps4
  go_wp2
  · go_ret; exact ⟨false, rfl, (fun h => Bool.noConfusion h), rfl⟩
  go_ret
  exact ⟨true, rfl, fun _ => (by omega), rfl⟩

theorem parses_dec (s : ByteArray) (neg : Bool) (m k : Nat) (h : Dec s neg m k) : Parses s (fdec neg m k) := fun wx hv => ParseFloat_dec s neg m k wx h hv
theorem fword_eq (neg : Bool) (M : Nat) (hM : M ≤ 1099511627776) : Op.floatEq .f64 (fword neg M 2) (fword neg M 2) = true := by
  unfold fword
  split
  · decide +kernel
  · obtain ⟨h, _⟩ := fdec_near neg M 2 (by omega) (by omega) (by omega) (by omega)
    rw [h]
    exact floatEq_nearest _ _ _
/-- What the token reads back as. -/
theorem back_pct (neg : Bool) (M : Nat) (r : ByteArray) (loc o kind : Int) (w : World) (hM : M ≤ 1099511627776) (h0 : M = 0 → neg = false) (k0 : 0 ≤ kind) (k1 : kind ≤ 255) (hr : Struck (txt (fixText neg M 2)) r) (hv : PowVars w) :
    Calls Tryz.prog 6 #[tokU 34 (r ++ { data := #[37] }) loc o, .int .u8 kind] w fun e w' => e = .returned (.tuple #[.string { data := #[37] }, .float .f64 (fword neg M 2), .bool true]) ∧ Below w.heap.size w w' := by
  have hsz := Nat.le_trans hr.size (fixText_size neg M 2 hM (by omega))
  have e := struck_plain neg M r hr
  have hp := parses_dec r neg _ _ (by rw [e]; exact plain_dec neg M hM)
  rw [plain_same neg M hM h0] at hp
  have z : (r ++ { data := #[37] } : ByteArray).size = r.size + 1 := by rw [ByteArray.size_append]; rfl
  refine zzttv_any _ _ _ _ _ _ _ _ w k0 k1 (fun wx hb => ttv_pct r _ _ kind loc o wx hp (hv.below hb) ?_ (by omega) (by omega))
  rw [z, Nat.add_sub_cancel]
  apply ByteArray.ext
  rw [ByteArray.data_extract, ByteArray.data_append, Array.extract_append]
  have : r.data.size = r.size := rfl
  simp [this]
theorem back_dim (neg : Bool) (M : Nat) (r u : ByteArray) (loc kind : Int) (w : World) (hM : M ≤ 1099511627776) (h0 : M = 0 → neg = false) (k0 : 0 ≤ kind) (k1 : kind ≤ 255) (hk : ¬ kind = 2) (hu : u.size ≤ 4096) (hr : Struck (txt (fixText neg M 2)) r) (hv : PowVars w) :
    Calls Tryz.prog 6 #[tokU 26 (r ++ u) loc r.size, .int .u8 kind] w fun e w' => e = .returned (.tuple #[.string u, .float .f64 (fword neg M 2), .bool true]) ∧ Below w.heap.size w w' := by
  have hsz := Nat.le_trans hr.size (fixText_size neg M 2 hM (by omega))
  have e := struck_plain neg M r hr
  have hp := parses_dec r neg _ _ (by rw [e]; exact plain_dec neg M hM)
  rw [plain_same neg M hM h0] at hp
  have z : (r ++ u : ByteArray).size = r.size + u.size := ByteArray.size_append ..
  have hd : r.data.size = r.size := rfl
  have hd2 : u.data.size = u.size := rfl
  refine zzttv_any _ _ _ _ _ _ _ _ w k0 k1 (fun wx hb => ttv_dim r u _ _ r.size kind loc wx hp (hv.below hb) ?_ ?_ (by omega) (by omega) hk)
  · apply ByteArray.ext
    rw [ByteArray.data_extract, ByteArray.data_append, Array.extract_append]
    simp [hd]
  · apply ByteArray.ext
    rw [ByteArray.data_extract, ByteArray.data_append, Array.extract_append, z]
    have e3 : u.data.extract 0 u.size = u.data := by rw [← hd2]; simp
    simp [hd, e3]

set_option maxRecDepth 100000 in
set_option maxHeartbeats 4000000 in
theorem law18_in (m kind : Int) (unit : ByteArray) (w : World) (h1 : -1099511627776 ≤ m) (h2 : m ≤ 1099511627776) (k0 : 0 ≤ kind) (k1 : kind ≤ 255) (hu : unit.size ≤ 4096) (hv : FmtVars w) (hpv : PowVars w) (ht : Lib.TabIs Tryz.prog w "internal/strconv.uint64pow10" .u64 Lib.pow10Tab) :
    Calls Tryz.prog 3 #[.int .i64 m, .string unit, .int .u8 kind] w (LawOk w) := by
  have hq := quo_hundred m (by omega)
  have hqu := fun (ty : TypeId) (wx : World) => run_float_arith (P := Tryz.prog) wx .quo ty .f64 _ _ _ hq
  clear hq
  have HZ := Lib.hid (fun wx => zz18 m kind unit wx (by unfold maxLen; omega))
  have HF := Lib.hid (fun wx (hb : Below w.heap.size w wx) k o hc => made_any m unit wx k 0 o (by omega) (hv.below hb) (tab_below ht hb) hu hc)
  have hVV : (FloatKind.f64.format.order (fword (decide (m < 0)) m.natAbs 2) (fword (decide (m < 0)) m.natAbs 2) == some Ordering.eq) = true := fword_eq (decide (m < 0)) m.natAbs (by omega)
  have HP := Lib.hid (fun r wx (hb : Below w.heap.size w wx) hr => back_pct (decide (m < 0)) m.natAbs r 0 0 kind wx (by omega) (fun h => by simp; omega) k0 k1 hr (hpv.below hb))
  have HD := Lib.hid (fun r wx (hb : Below w.heap.size w wx) hk hr => back_dim (decide (m < 0)) m.natAbs r unit 0 kind wx (by omega) (fun h => by simp; omega) k0 k1 hk hu hr (hpv.below hb))
  clear hv ht hpv
  have q3 : ¬ (1099511627776 : Int) < m := by omega
  have q4 : ¬ m < (-1099511627776 : Int) := by omega
  have q5 : ¬ 4096 < unit.size := by omega
  generalize fword (decide (m < 0)) m.natAbs 2 = V at *
  generalize txt (fixText (decide (m < 0)) m.natAbs 2) = T at *
  by_cases hp : (unit.toList == [37]) = true
  · have hpe := pct_of unit hp
    subst hpe
    have HM := Lib.hid (fun wx hb => HF.out wx hb 34 (fun _ => 0) (Or.inl ⟨hp, rfl, rfl⟩))
    clear HF HD hp
    unfold Made at *
    go_enter Tryz.func3, Tryz.ntmps3
    go_wp2_with fail
    refine (HZ.out _).mono ?_
    rintro e w0 ⟨b, rfl, _, rfl⟩
    cases b with
    | false =>
      go_wp2
      go_ret
      exact ⟨rfl, Below.refl _ _⟩
    | true =>
      by_cases hk2 : kind = 2
      · subst hk2
        go_wp2_with fail
        refine (HM.out _ (Below.refl _ _)).mono ?_
        rintro e w1 ⟨r, hr, rfl, hb1⟩
        have H1 := Lib.hid (And.intro hr hb1)
        clear hb1 hr
        go_wp2_with fail
        refine (HP.out r _ (H1.out.2.alloc H1.out.2.size _) H1.out.1).mono ?_
        rintro e w2 ⟨rfl, hb2⟩
        have H2 := Lib.hid ((H1.out.2.alloc H1.out.2.size _).trans (hb2.mono (by simp; exact Nat.le_succ_of_le H1.out.2.size)))
        clear hb2
        go_wp2
        go_ret
        exact ⟨rfl, H2.out⟩
      · go_wp2_with fail
        refine (HM.out _ (Below.refl _ _)).mono ?_
        rintro e w1 ⟨r, hr, rfl, hb1⟩
        have H1 := Lib.hid (And.intro hr hb1)
        clear hb1 hr
        go_wp2_with fail
        refine (HP.out r _ (H1.out.2.alloc H1.out.2.size _) H1.out.1).mono ?_
        rintro e w2 ⟨rfl, hb2⟩
        have H2 := Lib.hid ((H1.out.2.alloc H1.out.2.size _).trans (hb2.mono (by simp; exact Nat.le_succ_of_le H1.out.2.size)))
        clear hb2
        go_wp2
        go_ret
        exact ⟨rfl, H2.out⟩
  · have hne : (unit.toList == [37]) = false := by simpa using hp
    clear hp
    have HM := Lib.hid (fun wx hb => HF.out wx hb 26 (fun r => (r.size : Int)) (Or.inr ⟨hne, rfl, rfl⟩))
    clear HF HP
    unfold Made at *
    go_enter Tryz.func3, Tryz.ntmps3
    go_wp2_with fail
    refine (HZ.out _).mono ?_
    rintro e w0 ⟨b, rfl, _, rfl⟩
    cases b with
    | false =>
      go_wp2
      go_ret
      exact ⟨rfl, Below.refl _ _⟩
    | true =>
      by_cases hk2 : kind = 2
      · go_wp2
        go_ret
        exact ⟨rfl, Below.refl _ _⟩
      · go_wp2_with fail
        refine (HM.out _ (Below.refl _ _)).mono ?_
        rintro e w1 ⟨r, hr, rfl, hb1⟩
        have H1 := Lib.hid (And.intro hr hb1)
        clear hb1 hr
        go_wp2_with fail
        refine (HD.out r _ (H1.out.2.alloc H1.out.2.size _) hk2 H1.out.1).mono ?_
        rintro e w2 ⟨rfl, hb2⟩
        have H2 := Lib.hid ((H1.out.2.alloc H1.out.2.size _).trans (hb2.mono (by simp; exact Nat.le_succ_of_le H1.out.2.size)))
        clear hb2
        go_wp2
        go_ret
        exact ⟨rfl, H2.out⟩

set_option maxRecDepth 100000 in
set_option maxHeartbeats 1000000 in
theorem law18_wf (m : Int) (unit : ByteArray) (kind : Int) (W : World) (_hm : (Lit.int .i64 m).wf = true) (hw : unit.size ≤ maxLen) (hk : (Lit.int .u8 kind).wf = true) (hv : FmtVars W) (hpv : PowVars W) (ht : Lib.TabIs Tryz.prog W "internal/strconv.uint64pow10" .u64 Lib.pow10Tab) :
    Calls Tryz.prog 3 #[.int .i64 m, .string unit, .int .u8 kind] W (LawOk W) := by
  have a := (Lit.wf_int_iff .u8 kind).1 hk
  have e1 : IntKind.u8.min = 0 := by decide
  have e2 : IntKind.u8.max = 255 := by decide
  rw [e1, e2] at a
  by_cases hu : unit.size ≤ 4096 ∧ -1099511627776 ≤ m ∧ m ≤ 1099511627776
  · exact law18_in m kind unit W hu.2.1 hu.2.2 a.1 a.2 hu.1 hv hpv ht
  · have HZ := Lib.hid (fun wx => zz18 m kind unit wx hw)
    clear hv ht hpv
    unfold maxLen at hw
    by_cases g1 : 4096 < unit.size
    · go_enter Tryz.func3, Tryz.ntmps3
      go_wp2_with fail
      refine (HZ.out _).mono ?_
      rintro e w0 ⟨b, rfl, _, rfl⟩
      cases b with
      | false =>
        go_wp2
        go_ret
        exact ⟨rfl, Below.refl _ _⟩
      | true =>
        go_wp2
        go_ret
        exact ⟨rfl, Below.refl _ _⟩
    · by_cases g2 : 1099511627776 < m
      · go_enter Tryz.func3, Tryz.ntmps3
        go_wp2_with fail
        refine (HZ.out _).mono ?_
        rintro e w0 ⟨b, rfl, _, rfl⟩
        cases b with
        | false =>
          go_wp2
          go_ret
          exact ⟨rfl, Below.refl _ _⟩
        | true =>
          go_wp2
          go_ret
          exact ⟨rfl, Below.refl _ _⟩
      · have g3 : m < -1099511627776 := by omega
        go_enter Tryz.func3, Tryz.ntmps3
        go_wp2_with fail
        refine (HZ.out _).mono ?_
        rintro e w0 ⟨b, rfl, _, rfl⟩
        cases b with
        | false =>
          go_wp2
          go_ret
          exact ⟨rfl, Below.refl _ _⟩
        | true =>
          go_wp2
          go_ret
          exact ⟨rfl, Below.refl _ _⟩
end Go.Proofs.YtodlhjdogcpffaaGreatDoor
