/- FnTryToParseValueCaseTable: the walk. -/
import Derived.Test.YtodlhjdogcpffaaDoorLaw43
import Derived.Test.YtodlhjdogcpffaaDoorFmtLaid
namespace Go.Proofs.YtodlhjdogcpffaaDoor
open Go.RowKit
set_option linter.unusedVariables false

theorem shown_unique {neg : Bool} {M d : Nat} {s r : ByteArray} (h1 : Shown neg M d s) (h2 : Shown neg M d r) : s = r := by
  obtain ⟨j, hj, hz, hl, rfl⟩ := h1
  obtain ⟨k, hk, hz2, hl2, rfl⟩ := h2
  have e : j = k := by
    rcases Nat.lt_trichotomy j k with h | h | h
    · exfalso
      have a := hl2 (by omega)
      have b := hz (k - 1) (by omega) (by omega)
      rw [show d - 1 - (k - 1) = d - k by omega] at b
      exact a b
    · exact h
    · exfalso
      have a := hl (by omega)
      have b := hz2 (j - 1) (by omega) (by omega)
      rw [show d - 1 - (j - 1) = d - j by omega] at b
      exact a b
  subst e
  rfl
theorem shown_is {neg : Bool} {M : Nat} {s : ByteArray} (h : Shown neg M 2 s) : s = txt (plainL neg (M / 10 ^ (2 - tails M)) (intN M) (tails M)) := shown_unique h (shown_plain neg M)
theorem plain_size (neg : Bool) (M : Nat) (hM : M ≤ 9007199254740992) : (txt (plainL neg (M / 10 ^ (2 - tails M)) (intN M) (tails M))).size ≤ 30 := by
  have ht := tails_le M
  have hN : Lib.nDigits M ≤ 16 := nDigits_le M 16 (by omega) (by omega)
  have hi : intN M ≤ 14 := by unfold intN; split <;> omega
  rw [txt_size]
  unfold plainL
  have := Bool.toNat_le neg
  rw [List.length_append, List.length_append, plainL_sign, digs_length]
  split
  · simp; omega
  · rw [List.length_cons, digs_length]; omega

theorem vword_pos (neg : Bool) (M : Nat) (h0 : 0 < M) (hM : M ≤ 9007199254740992) : (FloatKind.f64.format.order (vword neg M) 0 != some Ordering.eq) = true := by
  unfold vword
  split
  · unfold fword
    rw [if_neg (by omega)]
    obtain ⟨Y, K, s, h1, h2, h3, h4, h5, h6, _⟩ := fdec_word neg M 2 h0 (by omega) (by omega) (by omega)
    rw [h1]
    exact word_ne neg Y K (by omega) h2 h3
  · have key : ∀ (Z : Nat) (p : Int), (Z.log2 = 54 ∨ Z.log2 = 55) → 0 < Z → (p = -9 ∨ p = -8) → (FloatKind.f64.format.order (Ieee.double.nearest neg Z p) 0 != some Ordering.eq) = true := by
      intro Z p hl hZ hp
      obtain ⟨K, hK, k1, k2⟩ := nearest_big neg Z p (by omega) hZ (by omega) (by omega)
      rw [hK]
      have z1 : 2 ^ Z.log2 ≤ Z := Nat.log2_self_le (by omega)
      have z2 : Z < 2 ^ (Z.log2 + 1) := Nat.lt_log2_self
      have a1 : 2 ^ Z.log2 = 4503599627370496 * 2 ^ (Z.log2 - 52) := psplit 52 (Z.log2 - 52) Z.log2 (by omega)
      have a2 : 2 ^ (Z.log2 + 1) = 9007199254740992 * 2 ^ (Z.log2 - 52) := psplit 53 (Z.log2 - 52) (Z.log2 + 1) (by omega)
      rw [a1] at z1
      rw [a2] at z2
      have d1 : 4503599627370496 ≤ Z / 2 ^ (Z.log2 - 52) := (Nat.le_div_iff_mul_le (Nat.two_pow_pos _)).2 z1
      have d2 : Z / 2 ^ (Z.log2 - 52) < 9007199254740992 := (Nat.div_lt_iff_lt_mul (Nat.two_pow_pos _)).2 z2
      exact word_ne neg _ K (by omega) (by omega) (by omega)
    unfold lword
    split
    · have hb := sig25_bounds M (by omega) (by omega)
      have hl := log2_sig M (by omega) (by omega)
      exact key _ _ (by rw [hl]; split <;> simp) (by omega) (Or.inl rfl)
    · have hb := sig25_bounds 4503599627370496 (by omega) (by omega)
      have hl := log2_sig 4503599627370496 (by omega) (by omega)
      exact key _ _ (by rw [hl]; split <;> simp) (by omega) (Or.inr rfl)
theorem vword_self (neg : Bool) (M : Nat) : (FloatKind.f64.format.order (vword neg M) (vword neg M) == some Ordering.eq) = true := by
  unfold vword
  split
  · unfold fword
    split
    · decide +kernel
    · obtain ⟨h, _⟩ := fdec_near neg M 2 (by omega) (by omega) (by omega) (by omega)
      rw [h]
      exact floatEq_nearest _ _ _
  · unfold lword
    split <;> exact floatEq_nearest _ _ _

set_option maxHeartbeats 1000000 in
theorem zz43 (sel m kind : Int) (unit : ByteArray) (w : World) (hs : unit.size ≤ maxLen) : Calls Tryd.prog 12 #[.int .u8 sel, .int .i64 m, .string unit, .int .u8 kind] w (BoolIf (unit.size ≤ 1048576) w) := by
  unfold maxLen at hs
  go_enter Tryd.func12, Tryd.ntmps12
  go_wp2
  · go_ret; exact ⟨false, rfl, (fun h => Bool.noConfusion h), rfl⟩
  go_ret
  exact ⟨true, rfl, fun _ => (by omega), rfl⟩

/-- The exported call's answer. -/
def Ans (u : ByteArray) (v : Nat) (ok : Bool) (w : World) (e : Ending) (w' : World) : Prop := e = .returned (.tuple #[.string u, .float .f64 v, .bool ok]) ∧ Below w.heap.size w w'

theorem ext_left (r u : ByteArray) : (r ++ u).extract 0 r.size = r := by
  apply ByteArray.ext
  rw [ByteArray.data_extract, ByteArray.data_append, Array.extract_append]
  have hd : r.data.size = r.size := rfl
  simp [hd]
theorem ext_right (r u : ByteArray) : (r ++ u).extract r.size (r ++ u).size = u := by
  apply ByteArray.ext
  rw [ByteArray.data_extract, ByteArray.data_append, Array.extract_append, ByteArray.size_append]
  have hd : r.data.size = r.size := rfl
  have hd2 : u.data.size = u.size := rfl
  have e3 : u.data.extract 0 u.size = u.data := by rw [← hd2]; simp
  simp [hd, e3]

theorem parses_s (neg : Bool) (M : Nat) (s : ByteArray) (w : World) (hM : M ≤ 9007199254740992) (h0 : M = 0 → neg = false) (hsh : Shown neg M 2 s) (hv : PowVars w) (hr : RowM2 w) (wx : World) (hb : Below w.heap.size w wx) : ParsesB s (vword neg M) wx := by
  rw [shown_is hsh]
  exact parses_v neg M wx hM h0 (hv.below hb) (hr.below hb)
section
variable (neg : Bool) (M : Nat) (s unit : ByteArray) (kind : Int) (w : World) (hM : M ≤ 9007199254740992) (h0 : M = 0 → neg = false) (k0 : 0 ≤ kind) (k1 : kind ≤ 255) (hsh : Shown neg M 2 s) (hv : PowVars w) (hr : RowM2 w)
include hM h0 k0 k1 hsh hv hr
theorem ans_pct : Calls Tryd.prog 13 #[tokU 34 (s ++ { data := #[37] }) 0 0, .int .u8 kind] w (Ans { data := #[37] } (vword neg M) true w) := by
  have hsz : s.size ≤ 30 := by rw [shown_is hsh]; exact plain_size neg M hM
  have z : (s ++ { data := #[37] } : ByteArray).size = s.size + 1 := by rw [ByteArray.size_append]; rfl
  refine zzttv_any _ _ _ _ _ _ _ _ w k0 k1 (fun wx hb => ttvB_pct s _ _ kind 0 0 wx (parses_s neg M s w hM h0 hsh hv hr wx hb) ?_ (by omega) (by omega))
  rw [z, Nat.add_sub_cancel]
  exact ext_left _ _
theorem ans_dim (hk : ¬ kind = 2) (hu : unit.size ≤ 4096) : Calls Tryd.prog 13 #[tokU 26 (s ++ unit) 0 s.size, .int .u8 kind] w (Ans unit (vword neg M) true w) := by
  have hsz : s.size ≤ 30 := by rw [shown_is hsh]; exact plain_size neg M hM
  have z : (s ++ unit : ByteArray).size = s.size + unit.size := ByteArray.size_append ..
  exact zzttv_any _ _ _ _ _ _ _ _ w k0 k1 (fun wx hb => ttvB_dim s unit _ _ s.size kind 0 wx (parses_s neg M s w hM h0 hsh hv hr wx hb) (ext_left _ _) (ext_right _ _) (by omega) (by omega) hk)
theorem ans_num (hk : ¬ kind = 2) : Calls Tryd.prog 13 #[tokU 30 s 0 0, .int .u8 kind] w (if M = 0 then Ans { data := #[37] } 0 true w else Ans { data := #[] } 0 false w) := by
  split
  · rename_i hz
    subst hz
    refine zzttv_any _ _ _ _ _ _ _ _ w k0 k1 (fun wx hb => ttvB_num_zero s _ kind 0 0 wx (parses_s neg 0 s w hM h0 hsh hv hr wx hb) hk ?_)
    rw [h0 rfl]
    decide +kernel
  · rename_i hz
    exact zzttv_any _ _ _ _ _ _ _ _ w k0 k1 (fun wx hb => ttvB_num_bad s _ kind 0 0 wx (parses_s neg M s w hM h0 hsh hv hr wx hb) hk (vword_pos neg M (by omega) hM))
end
theorem ans_num2 (s : ByteArray) (w : World) : Calls Tryd.prog 13 #[tokU 30 s 0 0, .int .u8 2] w (Ans { data := #[] } 0 false w) :=
  zzttv_any _ _ _ _ _ _ _ _ w (by omega) (by omega) (fun wx _ => ttvB_num_conic s 0 0 wx)
theorem ans_ident (s : ByteArray) (kind : Int) (w : World) (k0 : 0 ≤ kind) (k1 : kind ≤ 255) : Calls Tryd.prog 13 #[tokU 29 s 0 0, .int .u8 kind] w (Ans { data := #[] } 0 false w) :=
  zzttv_any _ _ _ _ _ _ _ _ w k0 k1 (fun wx _ => ttvB_ident s kind 0 0 wx)

set_option maxRecDepth 100000 in
set_option maxHeartbeats 800000 in
theorem law43_pct (sel : Int) (m kind : Int) (unit : ByteArray) (w : World) (h1 : -9007199254740992 ≤ m) (h2 : m ≤ 9007199254740992) (k0 : 0 ≤ kind) (k1 : kind ≤ 255) (hu : unit.size ≤ 4096) (hpv : PowVars w) (hr : RowM2 w) (hsel : sel.tmod 4 = 2) : Calls Tryd.prog 5 #[.int .u8 sel, .int .i64 m, .string unit, .int .u8 kind] w (LawOk w) := by
  have hq := quo_v m (by omega)
  have hqu := fun (ty : TypeId) (wx : World) => run_float_arith (P := Tryd.prog) wx .quo ty .f64 _ _ _ hq
  clear hq
  have HZ := Lib.hid (fun wx => zz43 sel m kind unit wx (by unfold maxLen; omega))
  have HD := Lib.hid (fun wx => dec_all m 2 wx (by omega) (by omega) (by omega))
  have HS := Lib.hid (fun (s : ByteArray) (hs : Shown (decide (m < 0)) m.natAbs 2 s) => (show s.size ≤ 30 by rw [shown_is hs]; exact plain_size _ _ (by omega)))
  have hVV := vword_self (decide (m < 0)) m.natAbs
  have HA := Lib.hid (fun (s : ByteArray) wx (hb : Below w.heap.size w wx) hs => ans_pct (decide (m < 0)) m.natAbs s kind wx (by omega) (fun h => by simp; omega) k0 k1 hs (hpv.below hb) (hr.below hb))
  clear hpv hr
  have q3 : ¬ (9007199254740992 : Int) < m := by omega
  have q4 : ¬ m < (-9007199254740992 : Int) := by omega
  have q5 : ¬ 4096 < unit.size := by omega
  generalize vword (decide (m < 0)) m.natAbs = V at *
  unfold Ans at *
  by_cases hk : kind = 2
  · subst hk
    go_enter Tryd.func5, Tryd.ntmps5
    go_wp2_with fail
    refine (HZ.out _).mono ?_
    rintro e w0 ⟨b, rfl, _, rfl⟩
    cases b with
    | false =>
      go_wp2
      go_ret
      exact ⟨rfl, Below.refl _ _⟩
    | true =>
      go_wp2_with fail
      refine (HD.out _).mono ?_
      rintro e w1 ⟨s, rfl, hs, hb1⟩
      have hsz := HS.out s hs
      have hw16 : IntKind.u16.wrap (s.size : Int) = s.size := by rw [IntKind.wrap_u16]; omega
      have H1 := Lib.hid (And.intro hs hb1)
      clear hs hb1
      go_wp2_with fail
      refine (HA.out s _ (H1.out.2.alloc H1.out.2.size _) H1.out.1).mono ?_
      rintro e w2 ⟨rfl, hb2⟩
      have H2 := Lib.hid ((H1.out.2.alloc H1.out.2.size _).trans (hb2.mono (by simp; exact Nat.le_succ_of_le H1.out.2.size)))
      clear hb2
      go_wp2
      go_ret
      exact ⟨rfl, H2.out⟩
  · go_enter Tryd.func5, Tryd.ntmps5
    go_wp2_with fail
    refine (HZ.out _).mono ?_
    rintro e w0 ⟨b, rfl, _, rfl⟩
    cases b with
    | false =>
      go_wp2
      go_ret
      exact ⟨rfl, Below.refl _ _⟩
    | true =>
      go_wp2_with fail
      refine (HD.out _).mono ?_
      rintro e w1 ⟨s, rfl, hs, hb1⟩
      have hsz := HS.out s hs
      have hw16 : IntKind.u16.wrap (s.size : Int) = s.size := by rw [IntKind.wrap_u16]; omega
      have H1 := Lib.hid (And.intro hs hb1)
      clear hs hb1
      go_wp2_with fail
      refine (HA.out s _ (H1.out.2.alloc H1.out.2.size _) H1.out.1).mono ?_
      rintro e w2 ⟨rfl, hb2⟩
      have H2 := Lib.hid ((H1.out.2.alloc H1.out.2.size _).trans (hb2.mono (by simp; exact Nat.le_succ_of_le H1.out.2.size)))
      clear hb2
      go_wp2
      go_ret
      exact ⟨rfl, H2.out⟩

set_option maxRecDepth 100000 in
set_option maxHeartbeats 800000 in
theorem law43_ident (sel : Int) (m kind : Int) (unit : ByteArray) (w : World) (h1 : -9007199254740992 ≤ m) (h2 : m ≤ 9007199254740992) (k0 : 0 ≤ kind) (k1 : kind ≤ 255) (hu : unit.size ≤ 4096) (hpv : PowVars w) (hr : RowM2 w) (hsel : sel.tmod 4 = 3) : Calls Tryd.prog 5 #[.int .u8 sel, .int .i64 m, .string unit, .int .u8 kind] w (LawOk w) := by
  have hq := quo_v m (by omega)
  have hqu := fun (ty : TypeId) (wx : World) => run_float_arith (P := Tryd.prog) wx .quo ty .f64 _ _ _ hq
  clear hq
  have HZ := Lib.hid (fun wx => zz43 sel m kind unit wx (by unfold maxLen; omega))
  have HD := Lib.hid (fun wx => dec_all m 2 wx (by omega) (by omega) (by omega))
  have HS := Lib.hid (fun (s : ByteArray) (hs : Shown (decide (m < 0)) m.natAbs 2 s) => (show s.size ≤ 30 by rw [shown_is hs]; exact plain_size _ _ (by omega)))
  have HA := Lib.hid (fun (s : ByteArray) wx => ans_ident s kind wx k0 k1)
  clear hpv hr
  have q3 : ¬ (9007199254740992 : Int) < m := by omega
  have q4 : ¬ m < (-9007199254740992 : Int) := by omega
  have q5 : ¬ 4096 < unit.size := by omega
  generalize vword (decide (m < 0)) m.natAbs = V at *
  unfold Ans at *
  by_cases hk : kind = 2
  · subst hk
    go_enter Tryd.func5, Tryd.ntmps5
    go_wp2_with fail
    refine (HZ.out _).mono ?_
    rintro e w0 ⟨b, rfl, _, rfl⟩
    cases b with
    | false =>
      go_wp2
      go_ret
      exact ⟨rfl, Below.refl _ _⟩
    | true =>
      go_wp2_with fail
      refine (HD.out _).mono ?_
      rintro e w1 ⟨s, rfl, hs, hb1⟩
      have hsz := HS.out s hs
      have hw16 : IntKind.u16.wrap (s.size : Int) = s.size := by rw [IntKind.wrap_u16]; omega
      have H1 := Lib.hid (And.intro hs hb1)
      clear hs hb1
      go_wp2_with fail
      refine (HA.out (s ++ unit) _).mono ?_
      rintro e w2 ⟨rfl, hb2⟩
      have H2 := Lib.hid ((H1.out.2.alloc H1.out.2.size _).trans (hb2.mono (by simp; exact Nat.le_succ_of_le H1.out.2.size)))
      clear hb2
      go_wp2
      go_ret
      exact ⟨rfl, H2.out⟩
  · go_enter Tryd.func5, Tryd.ntmps5
    go_wp2_with fail
    refine (HZ.out _).mono ?_
    rintro e w0 ⟨b, rfl, _, rfl⟩
    cases b with
    | false =>
      go_wp2
      go_ret
      exact ⟨rfl, Below.refl _ _⟩
    | true =>
      go_wp2_with fail
      refine (HD.out _).mono ?_
      rintro e w1 ⟨s, rfl, hs, hb1⟩
      have hsz := HS.out s hs
      have hw16 : IntKind.u16.wrap (s.size : Int) = s.size := by rw [IntKind.wrap_u16]; omega
      have H1 := Lib.hid (And.intro hs hb1)
      clear hs hb1
      go_wp2_with fail
      refine (HA.out (s ++ unit) _).mono ?_
      rintro e w2 ⟨rfl, hb2⟩
      have H2 := Lib.hid ((H1.out.2.alloc H1.out.2.size _).trans (hb2.mono (by simp; exact Nat.le_succ_of_le H1.out.2.size)))
      clear hb2
      go_wp2
      go_ret
      exact ⟨rfl, H2.out⟩

set_option maxRecDepth 100000 in
set_option maxHeartbeats 800000 in
theorem law43_dim (sel : Int) (m kind : Int) (unit : ByteArray) (w : World) (h1 : -9007199254740992 ≤ m) (h2 : m ≤ 9007199254740992) (k0 : 0 ≤ kind) (k1 : kind ≤ 255) (hu : unit.size ≤ 4096) (hpv : PowVars w) (hr : RowM2 w) (hsel : sel.tmod 4 = 1) : Calls Tryd.prog 5 #[.int .u8 sel, .int .i64 m, .string unit, .int .u8 kind] w (LawOk w) := by
  have hq := quo_v m (by omega)
  have hqu := fun (ty : TypeId) (wx : World) => run_float_arith (P := Tryd.prog) wx .quo ty .f64 _ _ _ hq
  clear hq
  have HZ := Lib.hid (fun wx => zz43 sel m kind unit wx (by unfold maxLen; omega))
  have HD := Lib.hid (fun wx => dec_all m 2 wx (by omega) (by omega) (by omega))
  have HS := Lib.hid (fun (s : ByteArray) (hs : Shown (decide (m < 0)) m.natAbs 2 s) => (show s.size ≤ 30 by rw [shown_is hs]; exact plain_size _ _ (by omega)))
  have hVV := vword_self (decide (m < 0)) m.natAbs
  have HA := Lib.hid (fun (s : ByteArray) wx (hb : Below w.heap.size w wx) hs (hk : ¬ kind = 2) => ans_dim (decide (m < 0)) m.natAbs s unit kind wx (by omega) (fun h => by simp; omega) k0 k1 hs (hpv.below hb) (hr.below hb) hk hu)
  clear hpv hr
  have q3 : ¬ (9007199254740992 : Int) < m := by omega
  have q4 : ¬ m < (-9007199254740992 : Int) := by omega
  have q5 : ¬ 4096 < unit.size := by omega
  generalize vword (decide (m < 0)) m.natAbs = V at *
  unfold Ans at *
  by_cases hk : kind = 2
  · subst hk
    go_enter Tryd.func5, Tryd.ntmps5
    go_wp2_with fail
    refine (HZ.out _).mono ?_
    rintro e w0 ⟨b, rfl, _, rfl⟩
    cases b with
    | false =>
      go_wp2
      go_ret
      exact ⟨rfl, Below.refl _ _⟩
    | true =>
      go_wp2_with fail
      refine (HD.out _).mono ?_
      rintro e w1 ⟨s, rfl, hs, hb1⟩
      have H1 := Lib.hid hb1
      clear hs hb1
      go_wp2
      go_ret
      exact ⟨rfl, H1.out.alloc H1.out.size _⟩
  · go_enter Tryd.func5, Tryd.ntmps5
    go_wp2_with fail
    refine (HZ.out _).mono ?_
    rintro e w0 ⟨b, rfl, _, rfl⟩
    cases b with
    | false =>
      go_wp2
      go_ret
      exact ⟨rfl, Below.refl _ _⟩
    | true =>
      go_wp2_with fail
      refine (HD.out _).mono ?_
      rintro e w1 ⟨s, rfl, hs, hb1⟩
      have hsz := HS.out s hs
      have hw16 : IntKind.u16.wrap (s.size : Int) = s.size := by rw [IntKind.wrap_u16]; omega
      have H1 := Lib.hid (And.intro hs hb1)
      clear hs hb1
      go_wp2_with fail
      refine (HA.out s _ (H1.out.2.alloc H1.out.2.size _) H1.out.1 hk).mono ?_
      rintro e w2 ⟨rfl, hb2⟩
      have H2 := Lib.hid ((H1.out.2.alloc H1.out.2.size _).trans (hb2.mono (by simp; exact Nat.le_succ_of_le H1.out.2.size)))
      clear hb2
      go_wp2
      go_ret
      exact ⟨rfl, H2.out⟩

set_option maxRecDepth 100000 in
set_option maxHeartbeats 800000 in
theorem law43_num (sel : Int) (m kind : Int) (unit : ByteArray) (w : World) (h1 : -9007199254740992 ≤ m) (h2 : m ≤ 9007199254740992) (k0 : 0 ≤ kind) (k1 : kind ≤ 255) (hu : unit.size ≤ 4096) (hpv : PowVars w) (hr : RowM2 w) (hsel : sel.tmod 4 = 0) : Calls Tryd.prog 5 #[.int .u8 sel, .int .i64 m, .string unit, .int .u8 kind] w (LawOk w) := by
  have hq := quo_v m (by omega)
  have hqu := fun (ty : TypeId) (wx : World) => run_float_arith (P := Tryd.prog) wx .quo ty .f64 _ _ _ hq
  clear hq
  have HZ := Lib.hid (fun wx => zz43 sel m kind unit wx (by unfold maxLen; omega))
  have HD := Lib.hid (fun wx => dec_all m 2 wx (by omega) (by omega) (by omega))
  have HS := Lib.hid (fun (s : ByteArray) (hs : Shown (decide (m < 0)) m.natAbs 2 s) => (show s.size ≤ 30 by rw [shown_is hs]; exact plain_size _ _ (by omega)))
  have HA := Lib.hid (fun (s : ByteArray) wx (hb : Below w.heap.size w wx) hs (hk : ¬ kind = 2) => ans_num (decide (m < 0)) m.natAbs s kind wx (by omega) (fun h => by simp; omega) k0 k1 hs (hpv.below hb) (hr.below hb) hk)
  have HA2 := Lib.hid (fun (s : ByteArray) wx => ans_num2 s wx)
  clear hpv hr
  have q3 : ¬ (9007199254740992 : Int) < m := by omega
  have q4 : ¬ m < (-9007199254740992 : Int) := by omega
  have q5 : ¬ 4096 < unit.size := by omega
  generalize vword (decide (m < 0)) m.natAbs = V at *
  by_cases hk : kind = 2
  · subst hk
    unfold Ans at *
    clear HA
    go_enter Tryd.func5, Tryd.ntmps5
    go_wp2_with fail
    refine (HZ.out _).mono ?_
    rintro e w0 ⟨b, rfl, _, rfl⟩
    cases b with
    | false =>
      go_wp2
      go_ret
      exact ⟨rfl, Below.refl _ _⟩
    | true =>
      go_wp2_with fail
      refine (HD.out _).mono ?_
      rintro e w1 ⟨s, rfl, hs, hb1⟩
      have hsz := HS.out s hs
      have hw16 : IntKind.u16.wrap (s.size : Int) = s.size := by rw [IntKind.wrap_u16]; omega
      have H1 := Lib.hid (And.intro hs hb1)
      clear hs hb1
      go_wp2_with fail
      refine (HA2.out s _).mono ?_
      rintro e w2 ⟨rfl, hb2⟩
      have H2 := Lib.hid ((H1.out.2.alloc H1.out.2.size _).trans (hb2.mono (by simp; exact Nat.le_succ_of_le H1.out.2.size)))
      clear hb2
      go_wp2
      go_ret
      exact ⟨rfl, H2.out⟩
  · clear HA2
    by_cases hm0 : m = 0
    · subst hm0
      simp only [Int.natAbs_zero, if_true] at HA
      unfold Ans at *
      go_enter Tryd.func5, Tryd.ntmps5
      go_wp2_with fail
      refine (HZ.out _).mono ?_
      rintro e w0 ⟨b, rfl, _, rfl⟩
      cases b with
      | false =>
        go_wp2
        go_ret
        exact ⟨rfl, Below.refl _ _⟩
      | true =>
        go_wp2_with fail
        refine (HD.out _).mono ?_
        rintro e w1 ⟨s, rfl, hs, hb1⟩
        have hsz := HS.out s hs
        have hw16 : IntKind.u16.wrap (s.size : Int) = s.size := by rw [IntKind.wrap_u16]; omega
        have H1 := Lib.hid (And.intro hs hb1)
        clear hs hb1
        go_wp2_with fail
        refine (HA.out s _ (H1.out.2.alloc H1.out.2.size _) H1.out.1 hk).mono ?_
        rintro e w2 ⟨rfl, hb2⟩
        have H2 := Lib.hid ((H1.out.2.alloc H1.out.2.size _).trans (hb2.mono (by simp; exact Nat.le_succ_of_le H1.out.2.size)))
        clear hb2
        go_wp2
        go_ret
        exact ⟨rfl, H2.out⟩
    · have hne : ¬ m.natAbs = 0 := by omega
      simp only [hne, if_false] at HA
      have hb0 : (m == 0) = false := by rw [beq_eq_false_iff_ne]; exact hm0
      have hb1 : (m != 0) = true := by rw [bne_iff_ne]; exact hm0
      clear hm0 hne
      unfold Ans at *
      go_enter Tryd.func5, Tryd.ntmps5
      go_wp2_with fail
      refine (HZ.out _).mono ?_
      rintro e w0 ⟨b, rfl, _, rfl⟩
      cases b with
      | false =>
        go_wp2
        go_ret
        exact ⟨rfl, Below.refl _ _⟩
      | true =>
        go_wp2_with fail
        refine (HD.out _).mono ?_
        rintro e w1 ⟨s, rfl, hs, hb1⟩
        have hsz := HS.out s hs
        have hw16 : IntKind.u16.wrap (s.size : Int) = s.size := by rw [IntKind.wrap_u16]; omega
        have H1 := Lib.hid (And.intro hs hb1)
        clear hs hb1
        go_wp2_with fail
        refine (HA.out s _ (H1.out.2.alloc H1.out.2.size _) H1.out.1 hk).mono ?_
        rintro e w2 ⟨rfl, hb2⟩
        have H2 := Lib.hid ((H1.out.2.alloc H1.out.2.size _).trans (hb2.mono (by simp; exact Nat.le_succ_of_le H1.out.2.size)))
        clear hb2
        go_wp2
        go_ret
        exact ⟨rfl, H2.out⟩

set_option maxRecDepth 100000 in
set_option maxHeartbeats 800000 in
theorem law43_wf (sel m : Int) (unit : ByteArray) (kind : Int) (W : World) (hsel : (Lit.int .u8 sel).wf = true) (_hm : (Lit.int .i64 m).wf = true) (hw : unit.size ≤ maxLen) (hk : (Lit.int .u8 kind).wf = true) (hpv : PowVars W) (hr : RowM2 W) :
    Calls Tryd.prog 5 #[.int .u8 sel, .int .i64 m, .string unit, .int .u8 kind] W (LawOk W) := by
  have a := (Lit.wf_int_iff .u8 kind).1 hk
  have b := (Lit.wf_int_iff .u8 sel).1 hsel
  have e1 : IntKind.u8.min = 0 := by decide
  have e2 : IntKind.u8.max = 255 := by decide
  rw [e1, e2] at a b
  by_cases hu : unit.size ≤ 4096 ∧ -9007199254740992 ≤ m ∧ m ≤ 9007199254740992
  · have h4 : sel.tmod 4 = 0 ∨ sel.tmod 4 = 1 ∨ sel.tmod 4 = 2 ∨ sel.tmod 4 = 3 := by rw [Int.tmod_eq_emod_of_nonneg (by omega)]; omega
    rcases h4 with h | h | h | h
    · exact law43_num sel m kind unit W hu.2.1 hu.2.2 a.1 a.2 hu.1 hpv hr h
    · exact law43_dim sel m kind unit W hu.2.1 hu.2.2 a.1 a.2 hu.1 hpv hr h
    · exact law43_pct sel m kind unit W hu.2.1 hu.2.2 a.1 a.2 hu.1 hpv hr h
    · exact law43_ident sel m kind unit W hu.2.1 hu.2.2 a.1 a.2 hu.1 hpv hr h
  · have HZ := Lib.hid (fun wx => zz43 sel m kind unit wx hw)
    clear hpv hr
    unfold maxLen at hw
    by_cases g1 : 4096 < unit.size
    · go_enter Tryd.func5, Tryd.ntmps5
      go_wp2_with fail
      refine (HZ.out _).mono ?_
      rintro e w0 ⟨b, rfl, _, rfl⟩
      cases b with
      | false =>
        go_wp2
        go_ret
        exact ⟨rfl, Below.refl _ _⟩
      | true =>
        go_wp2
        go_ret
        exact ⟨rfl, Below.refl _ _⟩
    · by_cases g2 : 9007199254740992 < m
      · go_enter Tryd.func5, Tryd.ntmps5
        go_wp2_with fail
        refine (HZ.out _).mono ?_
        rintro e w0 ⟨b, rfl, _, rfl⟩
        cases b with
        | false =>
          go_wp2
          go_ret
          exact ⟨rfl, Below.refl _ _⟩
        | true =>
          go_wp2
          go_ret
          exact ⟨rfl, Below.refl _ _⟩
      · have g3 : m < -9007199254740992 := by omega
        go_enter Tryd.func5, Tryd.ntmps5
        go_wp2_with fail
        refine (HZ.out _).mono ?_
        rintro e w0 ⟨b, rfl, _, rfl⟩
        cases b with
        | false =>
          go_wp2
          go_ret
          exact ⟨rfl, Below.refl _ _⟩
        | true =>
          go_wp2
          go_ret
          exact ⟨rfl, Below.refl _ _⟩

theorem hiLo_at : ∃ H L : Nat, (Go.Pinned.pow10Rows.map fun x => (x.1, x.2))[346]? = some (H, L) ∧ H = 11805916207174113035 ∧ L = 14019525496019259228 := ⟨_, _, by decide +kernel, rfl, rfl⟩
theorem row_at {W : World} (h1 : Lib.VarReads Tryd.prog W "internal/strconv.pow10Tab" Go.Pinned.pow10Tab) (p H L : Nat) (hp : p < 696) (hr : (Go.Pinned.pow10Rows.map fun x => (x.1, x.2))[p]? = some (H, L)) :
    W.cell? ⟨6, p * 2, none⟩ = some (.int .u64 (H : Int)) ∧ W.cell? ⟨6, p * 2 + 1, none⟩ = some (.int .u64 (L : Int)) := by
  obtain ⟨g, t, cs, fuel, ps, hg, hty, hvar, hd⟩ := h1
  have hg2 : Tryd.prog.globalNamed "internal/strconv.pow10Tab" = some 6 := by kernel_rfl
  have ht2 : (Tryd.prog.globals[6]?).map (·.type) = some 152 := by kernel_rfl
  obtain rfl := Option.some.inj (hg2.symm.trans hg)
  obtain rfl := Option.some.inj (ht2.symm.trans hty)
  obtain ⟨fuel', d, q, hdi, he⟩ := Lib.array_elem Tryd.underlying152 hd p (by omega)
  simp only [List.getElem?_map, Option.map_eq_some_iff] at hr hdi
  obtain ⟨a, ha, hpair⟩ := hr
  obtain ⟨a', ha', hd'⟩ := hdi
  rw [ha'] at ha
  obtain rfl := Option.some.inj ha
  simp only [Prod.mk.injEq] at hpair
  rw [hpair.1, hpair.2] at hd'
  subst hd'
  have hc2 : Tryd.prog.cellsOf 151 = 2 := by kernel_rfl
  rw [hc2] at he
  have hcs := Lib.ints_of_struct (zs := [(H : Int), (L : Int)]) Tryd.underlying151 (fun j f hj => by
    match j, hj with
    | 0, hj => simp at hj; subst hj; exact ⟨Tryd.underlying47, rfl, by kernel_rfl⟩
    | 1, hj => simp at hj; subst hj; exact ⟨Tryd.underlying47, rfl, by kernel_rfl⟩
    | j + 2, hj => simp at hj) (by rw [hc2]; rfl) he
  have e0 := congrArg (·[0]?) hcs
  have e1 := congrArg (·[1]?) hcs
  simp only [List.getElem?_take, List.getElem?_drop] at e0 e1
  constructor
  · rw [World.var?_cell hg hvar (p * 2), ← Array.getElem?_toList]
    simpa using e0
  · rw [World.var?_cell hg hvar (p * 2 + 1), ← Array.getElem?_toList]
    simpa using e1
theorem rowM2_of {W : World} (h1 : Lib.VarReads Tryd.prog W "internal/strconv.pow10Tab" Go.Pinned.pow10Tab) : RowM2 W := by
  obtain ⟨H, L, hr, hH, hL⟩ := hiLo_at
  obtain ⟨f0, f1⟩ := row_at h1 346 H L (by omega) hr
  rw [hH] at f0
  rw [hL] at f1
  exact ⟨f0, f1⟩
end Go.Proofs.YtodlhjdogcpffaaDoor
