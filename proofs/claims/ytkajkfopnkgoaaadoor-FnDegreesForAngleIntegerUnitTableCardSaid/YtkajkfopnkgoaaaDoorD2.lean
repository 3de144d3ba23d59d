/- FnDegreesForAngleIntegerUnitTable: the walk, a theorem a way. -/
import Derived.Test.YtkajkfopnkgoaaaDoorD1
namespace Go.Proofs.YtkajkfopnkgoaaaDoor
open Go.RowKit

set_option maxRecDepth 100000 in
theorem zz6_of (s : ByteArray) (k o : Int) (r : Nat) (ok : Bool) (w : World) (h : ∀ wx, PowVars wx → Calls Tryd.prog 9 #[tokD s k o] wx (Degs r ok wx)) (hv : PowVars w) : Calls Tryd.prog 6 #[tokD s k o] w (Degs r ok w) := by
  have HP := Lib.hid h
  have HV := Lib.hid hv
  clear h hv
  unfold Degs at *
  go_enter Tryd.func6, Tryd.ntmps6
  go_wp2_with (go_at_call 9; refine (HP.out _ (HV.out.below ((Below.refl _ _).alloc (Nat.le_refl _) _))).mono ?_; rintro e w1 ⟨rfl, hb1⟩)
  go_ret2
  exact ⟨rfl, ((Below.refl _ _).alloc (Nat.le_refl _) _).trans (hb1.mono (by simp))⟩

theorem app_left (a b : ByteArray) : (a ++ b).extract 0 a.size = a := ByteArray.extract_append_eq_left rfl
theorem app_right (a b : ByteArray) : (a ++ b).extract a.size (a ++ b).size = b := by
  apply ByteArray.ext
  rw [ByteArray.data_extract, ByteArray.data_append]
  have h1 : a.size = a.data.size := rfl
  have h2 : (a ++ b).size = a.data.size + b.data.size := by rw [ByteArray.size_append]; rfl
  have h3 : b.size = b.data.size := rfl
  rw [h1, h2, Array.extract_append]
  have e1 : a.data.extract a.data.size (a.data.size + b.data.size) = #[] := by simp
  have e2 : a.data.size + b.data.size - a.data.size = b.data.size := by omega
  rw [e1, Nat.sub_self, e2, Array.extract_size, Array.empty_append]

theorem IsInt.size {n : Int} {t : ByteArray} (h : IsInt n t) : t.size ≤ 19 ∧ 0 < t.size := by
  obtain ⟨N, h1, h2, _, _, rfl⟩ := h
  show ((if n < 0 then [(45 : UInt8)] else []) ++ digs n.natAbs N).toArray.size ≤ 19 ∧ 0 < ((if n < 0 then [(45 : UInt8)] else []) ++ digs n.natAbs N).toArray.size
  have := digs_length n.natAbs N
  split <;> simp [this] <;> omega

set_option maxRecDepth 100000 in
set_option maxHeartbeats 2000000 in
theorem way_whole_0 (n s : Int) (R : Nat) (w : World) (h1 : -2147483648 ≤ n) (h2 : n ≤ 2147483647) (hs : s % 7 = 0) (hs0 : 0 ≤ s) (hP : ∀ t, IsInt n t → Parses t R) (hv : PowVars w) (hv2 : floatOfInt .f64 n = R) (hq : (FloatKind.f64.format.order R R == some Ordering.eq) = true) : Calls Tryd.prog 4 #[.int .i32 n, .bool false, .int .u8 s] w (LawOk w) := by
  have hw1 : wrap64 n = n := by unfold wrap64; omega
  have hz : (FloatKind.f64.format.order 0 0 == some Ordering.eq) = true := by decide +kernel
  have hst : s.tmod 7 = 0 := by rw [Int.tmod_eq_emod_of_nonneg hs0]; exact hs
  have HI := Lib.hid (itoa_int n w (by omega) (by omega))
  have HP := Lib.hid hP
  have HV := Lib.hid hv
  clear hP hv
  go_enter Tryd.func4, Tryd.ntmps4
  go_wp2_with fail
  refine HI.out.mono ?_
  rintro e w1 ⟨t, rfl, ht, hb1⟩
  have hts := ht.size
  obtain ⟨hts, hts0⟩ := hts
  have HPt := Lib.hid (HP.out t ht)
  clear ht
  go_wp2_with (go_at_call 6; refine (zz6_of _ _ _ _ _ _ (fun wx hv' => deg_number _ R wx HPt.out hv') (HV.out.below (hb1.alloc hb1.size _))).mono ?_; rintro e w2 ⟨rfl, hb2⟩)
  all_goals go_ret
  all_goals exact ⟨rfl, (hb1.alloc hb1.size _).trans (hb2.mono (by simp; exact Nat.le_succ_of_le hb1.size))⟩

set_option maxRecDepth 100000 in
set_option maxHeartbeats 2000000 in
theorem way_whole_1 (n s : Int) (R : Nat) (w : World) (h1 : -2147483648 ≤ n) (h2 : n ≤ 2147483647) (hs : s % 7 = 1) (hs0 : 0 ≤ s) (hP : ∀ t, IsInt n t → Parses t R) (hv : PowVars w) (hv2 : floatOfInt .f64 n = R) (hq : (FloatKind.f64.format.order R R == some Ordering.eq) = true) : Calls Tryd.prog 4 #[.int .i32 n, .bool false, .int .u8 s] w (LawOk w) := by
  have hw1 : wrap64 n = n := by unfold wrap64; omega
  have hz : (FloatKind.f64.format.order 0 0 == some Ordering.eq) = true := by decide +kernel
  have hst : s.tmod 7 = 1 := by rw [Int.tmod_eq_emod_of_nonneg hs0]; exact hs
  have HI := Lib.hid (itoa_int n w (by omega) (by omega))
  have HP := Lib.hid hP
  have HV := Lib.hid hv
  clear hP hv
  go_enter Tryd.func4, Tryd.ntmps4
  go_wp2_with fail
  refine HI.out.mono ?_
  rintro e w1 ⟨t, rfl, ht, hb1⟩
  have hts := ht.size
  obtain ⟨hts, hts0⟩ := hts
  have HPt := Lib.hid (HP.out t ht)
  clear ht
  have hux : IntKind.u16.wrap (t.size : Int) = (t.size : Int) := by rw [IntKind.wrap_u16]; omega
  have hsz2 : (t ++ { data := #[100, 101, 103] } : ByteArray).size = t.size + 3 := by rw [ByteArray.size_append]; rfl
  have HL := Lib.hid (show t.size ≤ (t ++ { data := #[100, 101, 103] } : ByteArray).size by rw [hsz2]; omega)
  have hx1 := app_left t { data := #[100, 101, 103] }
  have hx2 := app_right t { data := #[100, 101, 103] }
  have hoi : (t.size : Int) = ((t.size : Nat) : Int) := rfl
  have HX := Lib.hid (And.intro hx1 (And.intro hx2 hoi))
  clear hx1 hx2 hoi
  go_wp2_with (go_at_call 6; refine (zz6_of _ _ _ _ _ _ (fun wx hv' => deg_deg _ _ R _ _ rfl wx HPt.out hv' HX.out.1 HX.out.2.1 HL.out) (HV.out.below (hb1.alloc hb1.size _))).mono ?_; rintro e w2 ⟨rfl, hb2⟩)
  all_goals go_ret
  all_goals exact ⟨rfl, (hb1.alloc hb1.size _).trans (hb2.mono (by simp; exact Nat.le_succ_of_le hb1.size))⟩

set_option maxRecDepth 100000 in
set_option maxHeartbeats 2000000 in
theorem way_whole_2 (n s : Int) (R : Nat) (w : World) (h1 : -2147483648 ≤ n) (h2 : n ≤ 2147483647) (hs : s % 7 = 2) (hs0 : 0 ≤ s) (hP : ∀ t, IsInt n t → Parses t R) (hv : PowVars w) (hv2 : floatOfInt .f64 n = R) (q : Nat) (hm : floatBits .mul .f64 R 4606281698874543309 = some q) (hq : (FloatKind.f64.format.order q q == some Ordering.eq) = true) : Calls Tryd.prog 4 #[.int .i32 n, .bool false, .int .u8 s] w (LawOk w) := by
  have hw1 : wrap64 n = n := by unfold wrap64; omega
  have hz : (FloatKind.f64.format.order 0 0 == some Ordering.eq) = true := by decide +kernel
  have hst : s.tmod 7 = 2 := by rw [Int.tmod_eq_emod_of_nonneg hs0]; exact hs
  have HI := Lib.hid (itoa_int n w (by omega) (by omega))
  have HP := Lib.hid hP
  have HV := Lib.hid hv
  clear hP hv
  have hmu := fun (ty : TypeId) (wx : World) => run_float_arith (P := Tryd.prog) wx .mul ty .f64 _ _ _ hm
  have HM := Lib.hid hm
  clear hm
  go_enter Tryd.func4, Tryd.ntmps4
  go_wp2_with fail
  refine HI.out.mono ?_
  rintro e w1 ⟨t, rfl, ht, hb1⟩
  have hts := ht.size
  obtain ⟨hts, hts0⟩ := hts
  have HPt := Lib.hid (HP.out t ht)
  clear ht
  have hux : IntKind.u16.wrap (t.size : Int) = (t.size : Int) := by rw [IntKind.wrap_u16]; omega
  have hsz2 : (t ++ { data := #[103, 114, 97, 100] } : ByteArray).size = t.size + 4 := by rw [ByteArray.size_append]; rfl
  have HL := Lib.hid (show t.size ≤ (t ++ { data := #[103, 114, 97, 100] } : ByteArray).size by rw [hsz2]; omega)
  have hx1 := app_left t { data := #[103, 114, 97, 100] }
  have hx2 := app_right t { data := #[103, 114, 97, 100] }
  have hoi : (t.size : Int) = ((t.size : Nat) : Int) := rfl
  have HX := Lib.hid (And.intro hx1 (And.intro hx2 hoi))
  clear hx1 hx2 hoi
  go_wp2_with (go_at_call 6; refine (zz6_of _ _ _ _ _ _ (fun wx hv' => deg_grad _ _ R q _ _ rfl wx HPt.out hv' HX.out.1 HX.out.2.1 HL.out HM.out) (HV.out.below (hb1.alloc hb1.size _))).mono ?_; rintro e w2 ⟨rfl, hb2⟩)
  all_goals go_ret
  all_goals exact ⟨rfl, (hb1.alloc hb1.size _).trans (hb2.mono (by simp; exact Nat.le_succ_of_le hb1.size))⟩

set_option maxRecDepth 100000 in
set_option maxHeartbeats 2000000 in
theorem way_whole_3 (n s : Int) (R : Nat) (w : World) (h1 : -2147483648 ≤ n) (h2 : n ≤ 2147483647) (hs : s % 7 = 3) (hs0 : 0 ≤ s) (hP : ∀ t, IsInt n t → Parses t R) (hv : PowVars w) (hv2 : floatOfInt .f64 n = R) (q : Nat) (hm : floatBits .mul .f64 R 4633260481411531256 = some q) (hq : (FloatKind.f64.format.order q q == some Ordering.eq) = true) : Calls Tryd.prog 4 #[.int .i32 n, .bool false, .int .u8 s] w (LawOk w) := by
  have hw1 : wrap64 n = n := by unfold wrap64; omega
  have hz : (FloatKind.f64.format.order 0 0 == some Ordering.eq) = true := by decide +kernel
  have hst : s.tmod 7 = 3 := by rw [Int.tmod_eq_emod_of_nonneg hs0]; exact hs
  have HI := Lib.hid (itoa_int n w (by omega) (by omega))
  have HP := Lib.hid hP
  have HV := Lib.hid hv
  clear hP hv
  have hmu := fun (ty : TypeId) (wx : World) => run_float_arith (P := Tryd.prog) wx .mul ty .f64 _ _ _ hm
  have HM := Lib.hid hm
  clear hm
  go_enter Tryd.func4, Tryd.ntmps4
  go_wp2_with fail
  refine HI.out.mono ?_
  rintro e w1 ⟨t, rfl, ht, hb1⟩
  have hts := ht.size
  obtain ⟨hts, hts0⟩ := hts
  have HPt := Lib.hid (HP.out t ht)
  clear ht
  have hux : IntKind.u16.wrap (t.size : Int) = (t.size : Int) := by rw [IntKind.wrap_u16]; omega
  have hsz2 : (t ++ { data := #[114, 97, 100] } : ByteArray).size = t.size + 3 := by rw [ByteArray.size_append]; rfl
  have HL := Lib.hid (show t.size ≤ (t ++ { data := #[114, 97, 100] } : ByteArray).size by rw [hsz2]; omega)
  have hx1 := app_left t { data := #[114, 97, 100] }
  have hx2 := app_right t { data := #[114, 97, 100] }
  have hoi : (t.size : Int) = ((t.size : Nat) : Int) := rfl
  have HX := Lib.hid (And.intro hx1 (And.intro hx2 hoi))
  clear hx1 hx2 hoi
  go_wp2_with (go_at_call 6; refine (zz6_of _ _ _ _ _ _ (fun wx hv' => deg_rad _ _ R q _ _ rfl wx HPt.out hv' HX.out.1 HX.out.2.1 HL.out HM.out) (HV.out.below (hb1.alloc hb1.size _))).mono ?_; rintro e w2 ⟨rfl, hb2⟩)
  all_goals go_ret
  all_goals exact ⟨rfl, (hb1.alloc hb1.size _).trans (hb2.mono (by simp; exact Nat.le_succ_of_le hb1.size))⟩

set_option maxRecDepth 100000 in
set_option maxHeartbeats 2000000 in
theorem way_whole_4 (n s : Int) (R : Nat) (w : World) (h1 : -2147483648 ≤ n) (h2 : n ≤ 2147483647) (hs : s % 7 = 4) (hs0 : 0 ≤ s) (hP : ∀ t, IsInt n t → Parses t R) (hv : PowVars w) (hv2 : floatOfInt .f64 n = R) (q : Nat) (hm : floatBits .mul .f64 R 4645040803167600640 = some q) (hq : (FloatKind.f64.format.order q q == some Ordering.eq) = true) : Calls Tryd.prog 4 #[.int .i32 n, .bool false, .int .u8 s] w (LawOk w) := by
  have hw1 : wrap64 n = n := by unfold wrap64; omega
  have hz : (FloatKind.f64.format.order 0 0 == some Ordering.eq) = true := by decide +kernel
  have hst : s.tmod 7 = 4 := by rw [Int.tmod_eq_emod_of_nonneg hs0]; exact hs
  have HI := Lib.hid (itoa_int n w (by omega) (by omega))
  have HP := Lib.hid hP
  have HV := Lib.hid hv
  clear hP hv
  have hmu := fun (ty : TypeId) (wx : World) => run_float_arith (P := Tryd.prog) wx .mul ty .f64 _ _ _ hm
  have HM := Lib.hid hm
  clear hm
  go_enter Tryd.func4, Tryd.ntmps4
  go_wp2_with fail
  refine HI.out.mono ?_
  rintro e w1 ⟨t, rfl, ht, hb1⟩
  have hts := ht.size
  obtain ⟨hts, hts0⟩ := hts
  have HPt := Lib.hid (HP.out t ht)
  clear ht
  have hux : IntKind.u16.wrap (t.size : Int) = (t.size : Int) := by rw [IntKind.wrap_u16]; omega
  have hsz2 : (t ++ { data := #[116, 117, 114, 110] } : ByteArray).size = t.size + 4 := by rw [ByteArray.size_append]; rfl
  have HL := Lib.hid (show t.size ≤ (t ++ { data := #[116, 117, 114, 110] } : ByteArray).size by rw [hsz2]; omega)
  have hx1 := app_left t { data := #[116, 117, 114, 110] }
  have hx2 := app_right t { data := #[116, 117, 114, 110] }
  have hoi : (t.size : Int) = ((t.size : Nat) : Int) := rfl
  have HX := Lib.hid (And.intro hx1 (And.intro hx2 hoi))
  clear hx1 hx2 hoi
  go_wp2_with (go_at_call 6; refine (zz6_of _ _ _ _ _ _ (fun wx hv' => deg_turn _ _ R q _ _ rfl wx HPt.out hv' HX.out.1 HX.out.2.1 HL.out HM.out) (HV.out.below (hb1.alloc hb1.size _))).mono ?_; rintro e w2 ⟨rfl, hb2⟩)
  all_goals go_ret
  all_goals exact ⟨rfl, (hb1.alloc hb1.size _).trans (hb2.mono (by simp; exact Nat.le_succ_of_le hb1.size))⟩

set_option maxRecDepth 100000 in
set_option maxHeartbeats 2000000 in
theorem way_whole_5 (n s : Int) (R : Nat) (w : World) (h1 : -2147483648 ≤ n) (h2 : n ≤ 2147483647) (hs : s % 7 = 5) (hs0 : 0 ≤ s) (hP : ∀ t, IsInt n t → Parses t R) (hv : PowVars w) (hv2 : floatOfInt .f64 n = R) : Calls Tryd.prog 4 #[.int .i32 n, .bool false, .int .u8 s] w (LawOk w) := by
  have hw1 : wrap64 n = n := by unfold wrap64; omega
  have hz : (FloatKind.f64.format.order 0 0 == some Ordering.eq) = true := by decide +kernel
  have hst : s.tmod 7 = 5 := by rw [Int.tmod_eq_emod_of_nonneg hs0]; exact hs
  have HI := Lib.hid (itoa_int n w (by omega) (by omega))
  have HP := Lib.hid hP
  have HV := Lib.hid hv
  clear hP hv
  go_enter Tryd.func4, Tryd.ntmps4
  go_wp2_with fail
  refine HI.out.mono ?_
  rintro e w1 ⟨t, rfl, ht, hb1⟩
  have hts := ht.size
  obtain ⟨hts, hts0⟩ := hts
  have HPt := Lib.hid (HP.out t ht)
  clear ht
  have hux : IntKind.u16.wrap (t.size : Int) = (t.size : Int) := by rw [IntKind.wrap_u16]; omega
  have hsz2 : (t ++ { data := #[112, 120] } : ByteArray).size = t.size + 2 := by rw [ByteArray.size_append]; rfl
  have HL := Lib.hid (show t.size ≤ (t ++ { data := #[112, 120] } : ByteArray).size by rw [hsz2]; omega)
  have hx1 := app_left t { data := #[112, 120] }
  have hx2 := app_right t { data := #[112, 120] }
  have hoi : (t.size : Int) = ((t.size : Nat) : Int) := rfl
  have HX := Lib.hid (And.intro hx1 (And.intro hx2 hoi))
  clear hx1 hx2 hoi
  go_wp2_with (go_at_call 6; refine (zz6_of _ _ _ _ _ _ (fun wx hv' => deg_px _ _ R _ _ rfl wx HPt.out hv' HX.out.1 HX.out.2.1 HL.out) (HV.out.below (hb1.alloc hb1.size _))).mono ?_; rintro e w2 ⟨rfl, hb2⟩)
  all_goals go_ret
  all_goals exact ⟨rfl, (hb1.alloc hb1.size _).trans (hb2.mono (by simp; exact Nat.le_succ_of_le hb1.size))⟩

set_option maxRecDepth 100000 in
set_option maxHeartbeats 2000000 in
theorem way_whole_6 (n s : Int) (R : Nat) (w : World) (h1 : -2147483648 ≤ n) (h2 : n ≤ 2147483647) (hs : s % 7 = 6) (hs0 : 0 ≤ s) (hP : ∀ t, IsInt n t → Parses t R) (hv : PowVars w) (hv2 : floatOfInt .f64 n = R) : Calls Tryd.prog 4 #[.int .i32 n, .bool false, .int .u8 s] w (LawOk w) := by
  have hw1 : wrap64 n = n := by unfold wrap64; omega
  have hz : (FloatKind.f64.format.order 0 0 == some Ordering.eq) = true := by decide +kernel
  have hst : s.tmod 7 = 6 := by rw [Int.tmod_eq_emod_of_nonneg hs0]; exact hs
  have HI := Lib.hid (itoa_int n w (by omega) (by omega))
  have HP := Lib.hid hP
  have HV := Lib.hid hv
  clear hP hv
  go_enter Tryd.func4, Tryd.ntmps4
  go_wp2_with fail
  refine HI.out.mono ?_
  rintro e w1 ⟨t, rfl, ht, hb1⟩
  have hts := ht.size
  obtain ⟨hts, hts0⟩ := hts
  have HPt := Lib.hid (HP.out t ht)
  clear ht
  have hux : IntKind.u16.wrap (t.size : Int) = (t.size : Int) := by rw [IntKind.wrap_u16]; omega
  have hsz2 : (t ++ { data := #[68, 69, 71] } : ByteArray).size = t.size + 3 := by rw [ByteArray.size_append]; rfl
  have HL := Lib.hid (show t.size ≤ (t ++ { data := #[68, 69, 71] } : ByteArray).size by rw [hsz2]; omega)
  have hx1 := app_left t { data := #[68, 69, 71] }
  have hx2 := app_right t { data := #[68, 69, 71] }
  have hoi : (t.size : Int) = ((t.size : Nat) : Int) := rfl
  have HX := Lib.hid (And.intro hx1 (And.intro hx2 hoi))
  clear hx1 hx2 hoi
  go_wp2_with (go_at_call 6; refine (zz6_of _ _ _ _ _ _ (fun wx hv' => deg_DEG _ _ R _ _ rfl wx HPt.out hv' HX.out.1 HX.out.2.1 HL.out) (HV.out.below (hb1.alloc hb1.size _))).mono ?_; rintro e w2 ⟨rfl, hb2⟩)
  all_goals go_ret
  all_goals exact ⟨rfl, (hb1.alloc hb1.size _).trans (hb2.mono (by simp; exact Nat.le_succ_of_le hb1.size))⟩

set_option maxRecDepth 100000 in
set_option maxHeartbeats 2000000 in
theorem way_neg_0 (n s : Int) (R : Nat) (w : World) (h1 : -2147483648 ≤ n) (h2 : n ≤ 2147483647) (hs : s % 7 = 0) (hs0 : 0 ≤ s) (hP : ∀ t, IsInt n t → Parses (t ++ { data := #[46, 53] }) R) (hv : PowVars w) (hn : n < 0) (hv2 : floatBits .sub .f64 (floatOfInt .f64 n) 4602678819172646912 = some R) (hq : (FloatKind.f64.format.order R R == some Ordering.eq) = true) : Calls Tryd.prog 4 #[.int .i32 n, .bool true, .int .u8 s] w (LawOk w) := by
  have hw1 : wrap64 n = n := by unfold wrap64; omega
  have hz : (FloatKind.f64.format.order 0 0 == some Ordering.eq) = true := by decide +kernel
  have hst : s.tmod 7 = 0 := by rw [Int.tmod_eq_emod_of_nonneg hs0]; exact hs
  have HI := Lib.hid (itoa_int n w (by omega) (by omega))
  have HP := Lib.hid hP
  have HV := Lib.hid hv
  clear hP hv
  have hmv := fun (ty : TypeId) (wx : World) => run_float_arith (P := Tryd.prog) wx .sub ty .f64 _ _ _ hv2
  clear hv2
  go_enter Tryd.func4, Tryd.ntmps4
  go_wp2_with fail
  refine HI.out.mono ?_
  rintro e w1 ⟨t, rfl, ht, hb1⟩
  have hts := ht.size
  obtain ⟨hts, hts0⟩ := hts
  have HPt := Lib.hid (HP.out t ht)
  clear ht
  have hsz : (t ++ { data := #[46, 53] } : ByteArray).size = t.size + 2 := by rw [ByteArray.size_append]; rfl
  go_wp2_with (go_at_call 6; refine (zz6_of _ _ _ _ _ _ (fun wx hv' => deg_number _ R wx HPt.out hv') (HV.out.below (hb1.alloc hb1.size _))).mono ?_; rintro e w2 ⟨rfl, hb2⟩)
  all_goals go_ret
  all_goals exact ⟨rfl, (hb1.alloc hb1.size _).trans (hb2.mono (by simp; exact Nat.le_succ_of_le hb1.size))⟩

set_option maxRecDepth 100000 in
set_option maxHeartbeats 2000000 in
theorem way_neg_1 (n s : Int) (R : Nat) (w : World) (h1 : -2147483648 ≤ n) (h2 : n ≤ 2147483647) (hs : s % 7 = 1) (hs0 : 0 ≤ s) (hP : ∀ t, IsInt n t → Parses (t ++ { data := #[46, 53] }) R) (hv : PowVars w) (hn : n < 0) (hv2 : floatBits .sub .f64 (floatOfInt .f64 n) 4602678819172646912 = some R) (hq : (FloatKind.f64.format.order R R == some Ordering.eq) = true) : Calls Tryd.prog 4 #[.int .i32 n, .bool true, .int .u8 s] w (LawOk w) := by
  have hw1 : wrap64 n = n := by unfold wrap64; omega
  have hz : (FloatKind.f64.format.order 0 0 == some Ordering.eq) = true := by decide +kernel
  have hst : s.tmod 7 = 1 := by rw [Int.tmod_eq_emod_of_nonneg hs0]; exact hs
  have HI := Lib.hid (itoa_int n w (by omega) (by omega))
  have HP := Lib.hid hP
  have HV := Lib.hid hv
  clear hP hv
  have hmv := fun (ty : TypeId) (wx : World) => run_float_arith (P := Tryd.prog) wx .sub ty .f64 _ _ _ hv2
  clear hv2
  go_enter Tryd.func4, Tryd.ntmps4
  go_wp2_with fail
  refine HI.out.mono ?_
  rintro e w1 ⟨t, rfl, ht, hb1⟩
  have hts := ht.size
  obtain ⟨hts, hts0⟩ := hts
  have HPt := Lib.hid (HP.out t ht)
  clear ht
  have hsz : (t ++ { data := #[46, 53] } : ByteArray).size = t.size + 2 := by rw [ByteArray.size_append]; rfl
  have hux : IntKind.u16.wrap ((t ++ { data := #[46, 53] } : ByteArray).size : Int) = ((t ++ { data := #[46, 53] } : ByteArray).size : Int) := by rw [IntKind.wrap_u16, hsz]; omega
  have hsz2 : ((t ++ { data := #[46, 53] } : ByteArray) ++ { data := #[100, 101, 103] } : ByteArray).size = (t ++ { data := #[46, 53] } : ByteArray).size + 3 := by rw [ByteArray.size_append]; rfl
  have HL := Lib.hid (show (t ++ { data := #[46, 53] } : ByteArray).size ≤ ((t ++ { data := #[46, 53] } : ByteArray) ++ { data := #[100, 101, 103] } : ByteArray).size by rw [hsz2]; omega)
  have hx1 := app_left (t ++ { data := #[46, 53] } : ByteArray) { data := #[100, 101, 103] }
  have hx2 := app_right (t ++ { data := #[46, 53] } : ByteArray) { data := #[100, 101, 103] }
  have hoi : (t.size : Int) + 2 = (((t ++ { data := #[46, 53] } : ByteArray).size : Nat) : Int) := by rw [hsz]; omega
  have HX := Lib.hid (And.intro hx1 (And.intro hx2 hoi))
  clear hx1 hx2 hoi
  go_wp2_with (go_at_call 6; refine (zz6_of _ _ _ _ _ _ (fun wx hv' => deg_deg _ _ R _ _ HX.out.2.2 wx HPt.out hv' HX.out.1 HX.out.2.1 HL.out) (HV.out.below (hb1.alloc hb1.size _))).mono ?_; rintro e w2 ⟨rfl, hb2⟩)
  all_goals go_ret
  all_goals exact ⟨rfl, (hb1.alloc hb1.size _).trans (hb2.mono (by simp; exact Nat.le_succ_of_le hb1.size))⟩

set_option maxRecDepth 100000 in
set_option maxHeartbeats 2000000 in
theorem way_neg_2 (n s : Int) (R : Nat) (w : World) (h1 : -2147483648 ≤ n) (h2 : n ≤ 2147483647) (hs : s % 7 = 2) (hs0 : 0 ≤ s) (hP : ∀ t, IsInt n t → Parses (t ++ { data := #[46, 53] }) R) (hv : PowVars w) (hn : n < 0) (hv2 : floatBits .sub .f64 (floatOfInt .f64 n) 4602678819172646912 = some R) (q : Nat) (hm : floatBits .mul .f64 R 4606281698874543309 = some q) (hq : (FloatKind.f64.format.order q q == some Ordering.eq) = true) : Calls Tryd.prog 4 #[.int .i32 n, .bool true, .int .u8 s] w (LawOk w) := by
  have hw1 : wrap64 n = n := by unfold wrap64; omega
  have hz : (FloatKind.f64.format.order 0 0 == some Ordering.eq) = true := by decide +kernel
  have hst : s.tmod 7 = 2 := by rw [Int.tmod_eq_emod_of_nonneg hs0]; exact hs
  have HI := Lib.hid (itoa_int n w (by omega) (by omega))
  have HP := Lib.hid hP
  have HV := Lib.hid hv
  clear hP hv
  have hmv := fun (ty : TypeId) (wx : World) => run_float_arith (P := Tryd.prog) wx .sub ty .f64 _ _ _ hv2
  clear hv2
  have hmu := fun (ty : TypeId) (wx : World) => run_float_arith (P := Tryd.prog) wx .mul ty .f64 _ _ _ hm
  have HM := Lib.hid hm
  clear hm
  go_enter Tryd.func4, Tryd.ntmps4
  go_wp2_with fail
  refine HI.out.mono ?_
  rintro e w1 ⟨t, rfl, ht, hb1⟩
  have hts := ht.size
  obtain ⟨hts, hts0⟩ := hts
  have HPt := Lib.hid (HP.out t ht)
  clear ht
  have hsz : (t ++ { data := #[46, 53] } : ByteArray).size = t.size + 2 := by rw [ByteArray.size_append]; rfl
  have hux : IntKind.u16.wrap ((t ++ { data := #[46, 53] } : ByteArray).size : Int) = ((t ++ { data := #[46, 53] } : ByteArray).size : Int) := by rw [IntKind.wrap_u16, hsz]; omega
  have hsz2 : ((t ++ { data := #[46, 53] } : ByteArray) ++ { data := #[103, 114, 97, 100] } : ByteArray).size = (t ++ { data := #[46, 53] } : ByteArray).size + 4 := by rw [ByteArray.size_append]; rfl
  have HL := Lib.hid (show (t ++ { data := #[46, 53] } : ByteArray).size ≤ ((t ++ { data := #[46, 53] } : ByteArray) ++ { data := #[103, 114, 97, 100] } : ByteArray).size by rw [hsz2]; omega)
  have hx1 := app_left (t ++ { data := #[46, 53] } : ByteArray) { data := #[103, 114, 97, 100] }
  have hx2 := app_right (t ++ { data := #[46, 53] } : ByteArray) { data := #[103, 114, 97, 100] }
  have hoi : (t.size : Int) + 2 = (((t ++ { data := #[46, 53] } : ByteArray).size : Nat) : Int) := by rw [hsz]; omega
  have HX := Lib.hid (And.intro hx1 (And.intro hx2 hoi))
  clear hx1 hx2 hoi
  go_wp2_with (go_at_call 6; refine (zz6_of _ _ _ _ _ _ (fun wx hv' => deg_grad _ _ R q _ _ HX.out.2.2 wx HPt.out hv' HX.out.1 HX.out.2.1 HL.out HM.out) (HV.out.below (hb1.alloc hb1.size _))).mono ?_; rintro e w2 ⟨rfl, hb2⟩)
  all_goals go_ret
  all_goals exact ⟨rfl, (hb1.alloc hb1.size _).trans (hb2.mono (by simp; exact Nat.le_succ_of_le hb1.size))⟩

set_option maxRecDepth 100000 in
set_option maxHeartbeats 2000000 in
theorem way_neg_3 (n s : Int) (R : Nat) (w : World) (h1 : -2147483648 ≤ n) (h2 : n ≤ 2147483647) (hs : s % 7 = 3) (hs0 : 0 ≤ s) (hP : ∀ t, IsInt n t → Parses (t ++ { data := #[46, 53] }) R) (hv : PowVars w) (hn : n < 0) (hv2 : floatBits .sub .f64 (floatOfInt .f64 n) 4602678819172646912 = some R) (q : Nat) (hm : floatBits .mul .f64 R 4633260481411531256 = some q) (hq : (FloatKind.f64.format.order q q == some Ordering.eq) = true) : Calls Tryd.prog 4 #[.int .i32 n, .bool true, .int .u8 s] w (LawOk w) := by
  have hw1 : wrap64 n = n := by unfold wrap64; omega
  have hz : (FloatKind.f64.format.order 0 0 == some Ordering.eq) = true := by decide +kernel
  have hst : s.tmod 7 = 3 := by rw [Int.tmod_eq_emod_of_nonneg hs0]; exact hs
  have HI := Lib.hid (itoa_int n w (by omega) (by omega))
  have HP := Lib.hid hP
  have HV := Lib.hid hv
  clear hP hv
  have hmv := fun (ty : TypeId) (wx : World) => run_float_arith (P := Tryd.prog) wx .sub ty .f64 _ _ _ hv2
  clear hv2
  have hmu := fun (ty : TypeId) (wx : World) => run_float_arith (P := Tryd.prog) wx .mul ty .f64 _ _ _ hm
  have HM := Lib.hid hm
  clear hm
  go_enter Tryd.func4, Tryd.ntmps4
  go_wp2_with fail
  refine HI.out.mono ?_
  rintro e w1 ⟨t, rfl, ht, hb1⟩
  have hts := ht.size
  obtain ⟨hts, hts0⟩ := hts
  have HPt := Lib.hid (HP.out t ht)
  clear ht
  have hsz : (t ++ { data := #[46, 53] } : ByteArray).size = t.size + 2 := by rw [ByteArray.size_append]; rfl
  have hux : IntKind.u16.wrap ((t ++ { data := #[46, 53] } : ByteArray).size : Int) = ((t ++ { data := #[46, 53] } : ByteArray).size : Int) := by rw [IntKind.wrap_u16, hsz]; omega
  have hsz2 : ((t ++ { data := #[46, 53] } : ByteArray) ++ { data := #[114, 97, 100] } : ByteArray).size = (t ++ { data := #[46, 53] } : ByteArray).size + 3 := by rw [ByteArray.size_append]; rfl
  have HL := Lib.hid (show (t ++ { data := #[46, 53] } : ByteArray).size ≤ ((t ++ { data := #[46, 53] } : ByteArray) ++ { data := #[114, 97, 100] } : ByteArray).size by rw [hsz2]; omega)
  have hx1 := app_left (t ++ { data := #[46, 53] } : ByteArray) { data := #[114, 97, 100] }
  have hx2 := app_right (t ++ { data := #[46, 53] } : ByteArray) { data := #[114, 97, 100] }
  have hoi : (t.size : Int) + 2 = (((t ++ { data := #[46, 53] } : ByteArray).size : Nat) : Int) := by rw [hsz]; omega
  have HX := Lib.hid (And.intro hx1 (And.intro hx2 hoi))
  clear hx1 hx2 hoi
  go_wp2_with (go_at_call 6; refine (zz6_of _ _ _ _ _ _ (fun wx hv' => deg_rad _ _ R q _ _ HX.out.2.2 wx HPt.out hv' HX.out.1 HX.out.2.1 HL.out HM.out) (HV.out.below (hb1.alloc hb1.size _))).mono ?_; rintro e w2 ⟨rfl, hb2⟩)
  all_goals go_ret
  all_goals exact ⟨rfl, (hb1.alloc hb1.size _).trans (hb2.mono (by simp; exact Nat.le_succ_of_le hb1.size))⟩

set_option maxRecDepth 100000 in
set_option maxHeartbeats 2000000 in
theorem way_neg_4 (n s : Int) (R : Nat) (w : World) (h1 : -2147483648 ≤ n) (h2 : n ≤ 2147483647) (hs : s % 7 = 4) (hs0 : 0 ≤ s) (hP : ∀ t, IsInt n t → Parses (t ++ { data := #[46, 53] }) R) (hv : PowVars w) (hn : n < 0) (hv2 : floatBits .sub .f64 (floatOfInt .f64 n) 4602678819172646912 = some R) (q : Nat) (hm : floatBits .mul .f64 R 4645040803167600640 = some q) (hq : (FloatKind.f64.format.order q q == some Ordering.eq) = true) : Calls Tryd.prog 4 #[.int .i32 n, .bool true, .int .u8 s] w (LawOk w) := by
  have hw1 : wrap64 n = n := by unfold wrap64; omega
  have hz : (FloatKind.f64.format.order 0 0 == some Ordering.eq) = true := by decide +kernel
  have hst : s.tmod 7 = 4 := by rw [Int.tmod_eq_emod_of_nonneg hs0]; exact hs
  have HI := Lib.hid (itoa_int n w (by omega) (by omega))
  have HP := Lib.hid hP
  have HV := Lib.hid hv
  clear hP hv
  have hmv := fun (ty : TypeId) (wx : World) => run_float_arith (P := Tryd.prog) wx .sub ty .f64 _ _ _ hv2
  clear hv2
  have hmu := fun (ty : TypeId) (wx : World) => run_float_arith (P := Tryd.prog) wx .mul ty .f64 _ _ _ hm
  have HM := Lib.hid hm
  clear hm
  go_enter Tryd.func4, Tryd.ntmps4
  go_wp2_with fail
  refine HI.out.mono ?_
  rintro e w1 ⟨t, rfl, ht, hb1⟩
  have hts := ht.size
  obtain ⟨hts, hts0⟩ := hts
  have HPt := Lib.hid (HP.out t ht)
  clear ht
  have hsz : (t ++ { data := #[46, 53] } : ByteArray).size = t.size + 2 := by rw [ByteArray.size_append]; rfl
  have hux : IntKind.u16.wrap ((t ++ { data := #[46, 53] } : ByteArray).size : Int) = ((t ++ { data := #[46, 53] } : ByteArray).size : Int) := by rw [IntKind.wrap_u16, hsz]; omega
  have hsz2 : ((t ++ { data := #[46, 53] } : ByteArray) ++ { data := #[116, 117, 114, 110] } : ByteArray).size = (t ++ { data := #[46, 53] } : ByteArray).size + 4 := by rw [ByteArray.size_append]; rfl
  have HL := Lib.hid (show (t ++ { data := #[46, 53] } : ByteArray).size ≤ ((t ++ { data := #[46, 53] } : ByteArray) ++ { data := #[116, 117, 114, 110] } : ByteArray).size by rw [hsz2]; omega)
  have hx1 := app_left (t ++ { data := #[46, 53] } : ByteArray) { data := #[116, 117, 114, 110] }
  have hx2 := app_right (t ++ { data := #[46, 53] } : ByteArray) { data := #[116, 117, 114, 110] }
  have hoi : (t.size : Int) + 2 = (((t ++ { data := #[46, 53] } : ByteArray).size : Nat) : Int) := by rw [hsz]; omega
  have HX := Lib.hid (And.intro hx1 (And.intro hx2 hoi))
  clear hx1 hx2 hoi
  go_wp2_with (go_at_call 6; refine (zz6_of _ _ _ _ _ _ (fun wx hv' => deg_turn _ _ R q _ _ HX.out.2.2 wx HPt.out hv' HX.out.1 HX.out.2.1 HL.out HM.out) (HV.out.below (hb1.alloc hb1.size _))).mono ?_; rintro e w2 ⟨rfl, hb2⟩)
  all_goals go_ret
  all_goals exact ⟨rfl, (hb1.alloc hb1.size _).trans (hb2.mono (by simp; exact Nat.le_succ_of_le hb1.size))⟩

set_option maxRecDepth 100000 in
set_option maxHeartbeats 2000000 in
theorem way_neg_5 (n s : Int) (R : Nat) (w : World) (h1 : -2147483648 ≤ n) (h2 : n ≤ 2147483647) (hs : s % 7 = 5) (hs0 : 0 ≤ s) (hP : ∀ t, IsInt n t → Parses (t ++ { data := #[46, 53] }) R) (hv : PowVars w) (hn : n < 0) (hv2 : floatBits .sub .f64 (floatOfInt .f64 n) 4602678819172646912 = some R) : Calls Tryd.prog 4 #[.int .i32 n, .bool true, .int .u8 s] w (LawOk w) := by
  have hw1 : wrap64 n = n := by unfold wrap64; omega
  have hz : (FloatKind.f64.format.order 0 0 == some Ordering.eq) = true := by decide +kernel
  have hst : s.tmod 7 = 5 := by rw [Int.tmod_eq_emod_of_nonneg hs0]; exact hs
  have HI := Lib.hid (itoa_int n w (by omega) (by omega))
  have HP := Lib.hid hP
  have HV := Lib.hid hv
  clear hP hv
  have hmv := fun (ty : TypeId) (wx : World) => run_float_arith (P := Tryd.prog) wx .sub ty .f64 _ _ _ hv2
  clear hv2
  go_enter Tryd.func4, Tryd.ntmps4
  go_wp2_with fail
  refine HI.out.mono ?_
  rintro e w1 ⟨t, rfl, ht, hb1⟩
  have hts := ht.size
  obtain ⟨hts, hts0⟩ := hts
  have HPt := Lib.hid (HP.out t ht)
  clear ht
  have hsz : (t ++ { data := #[46, 53] } : ByteArray).size = t.size + 2 := by rw [ByteArray.size_append]; rfl
  have hux : IntKind.u16.wrap ((t ++ { data := #[46, 53] } : ByteArray).size : Int) = ((t ++ { data := #[46, 53] } : ByteArray).size : Int) := by rw [IntKind.wrap_u16, hsz]; omega
  have hsz2 : ((t ++ { data := #[46, 53] } : ByteArray) ++ { data := #[112, 120] } : ByteArray).size = (t ++ { data := #[46, 53] } : ByteArray).size + 2 := by rw [ByteArray.size_append]; rfl
  have HL := Lib.hid (show (t ++ { data := #[46, 53] } : ByteArray).size ≤ ((t ++ { data := #[46, 53] } : ByteArray) ++ { data := #[112, 120] } : ByteArray).size by rw [hsz2]; omega)
  have hx1 := app_left (t ++ { data := #[46, 53] } : ByteArray) { data := #[112, 120] }
  have hx2 := app_right (t ++ { data := #[46, 53] } : ByteArray) { data := #[112, 120] }
  have hoi : (t.size : Int) + 2 = (((t ++ { data := #[46, 53] } : ByteArray).size : Nat) : Int) := by rw [hsz]; omega
  have HX := Lib.hid (And.intro hx1 (And.intro hx2 hoi))
  clear hx1 hx2 hoi
  go_wp2_with (go_at_call 6; refine (zz6_of _ _ _ _ _ _ (fun wx hv' => deg_px _ _ R _ _ HX.out.2.2 wx HPt.out hv' HX.out.1 HX.out.2.1 HL.out) (HV.out.below (hb1.alloc hb1.size _))).mono ?_; rintro e w2 ⟨rfl, hb2⟩)
  all_goals go_ret
  all_goals exact ⟨rfl, (hb1.alloc hb1.size _).trans (hb2.mono (by simp; exact Nat.le_succ_of_le hb1.size))⟩

set_option maxRecDepth 100000 in
set_option maxHeartbeats 2000000 in
theorem way_neg_6 (n s : Int) (R : Nat) (w : World) (h1 : -2147483648 ≤ n) (h2 : n ≤ 2147483647) (hs : s % 7 = 6) (hs0 : 0 ≤ s) (hP : ∀ t, IsInt n t → Parses (t ++ { data := #[46, 53] }) R) (hv : PowVars w) (hn : n < 0) (hv2 : floatBits .sub .f64 (floatOfInt .f64 n) 4602678819172646912 = some R) : Calls Tryd.prog 4 #[.int .i32 n, .bool true, .int .u8 s] w (LawOk w) := by
  have hw1 : wrap64 n = n := by unfold wrap64; omega
  have hz : (FloatKind.f64.format.order 0 0 == some Ordering.eq) = true := by decide +kernel
  have hst : s.tmod 7 = 6 := by rw [Int.tmod_eq_emod_of_nonneg hs0]; exact hs
  have HI := Lib.hid (itoa_int n w (by omega) (by omega))
  have HP := Lib.hid hP
  have HV := Lib.hid hv
  clear hP hv
  have hmv := fun (ty : TypeId) (wx : World) => run_float_arith (P := Tryd.prog) wx .sub ty .f64 _ _ _ hv2
  clear hv2
  go_enter Tryd.func4, Tryd.ntmps4
  go_wp2_with fail
  refine HI.out.mono ?_
  rintro e w1 ⟨t, rfl, ht, hb1⟩
  have hts := ht.size
  obtain ⟨hts, hts0⟩ := hts
  have HPt := Lib.hid (HP.out t ht)
  clear ht
  have hsz : (t ++ { data := #[46, 53] } : ByteArray).size = t.size + 2 := by rw [ByteArray.size_append]; rfl
  have hux : IntKind.u16.wrap ((t ++ { data := #[46, 53] } : ByteArray).size : Int) = ((t ++ { data := #[46, 53] } : ByteArray).size : Int) := by rw [IntKind.wrap_u16, hsz]; omega
  have hsz2 : ((t ++ { data := #[46, 53] } : ByteArray) ++ { data := #[68, 69, 71] } : ByteArray).size = (t ++ { data := #[46, 53] } : ByteArray).size + 3 := by rw [ByteArray.size_append]; rfl
  have HL := Lib.hid (show (t ++ { data := #[46, 53] } : ByteArray).size ≤ ((t ++ { data := #[46, 53] } : ByteArray) ++ { data := #[68, 69, 71] } : ByteArray).size by rw [hsz2]; omega)
  have hx1 := app_left (t ++ { data := #[46, 53] } : ByteArray) { data := #[68, 69, 71] }
  have hx2 := app_right (t ++ { data := #[46, 53] } : ByteArray) { data := #[68, 69, 71] }
  have hoi : (t.size : Int) + 2 = (((t ++ { data := #[46, 53] } : ByteArray).size : Nat) : Int) := by rw [hsz]; omega
  have HX := Lib.hid (And.intro hx1 (And.intro hx2 hoi))
  clear hx1 hx2 hoi
  go_wp2_with (go_at_call 6; refine (zz6_of _ _ _ _ _ _ (fun wx hv' => deg_DEG _ _ R _ _ HX.out.2.2 wx HPt.out hv' HX.out.1 HX.out.2.1 HL.out) (HV.out.below (hb1.alloc hb1.size _))).mono ?_; rintro e w2 ⟨rfl, hb2⟩)
  all_goals go_ret
  all_goals exact ⟨rfl, (hb1.alloc hb1.size _).trans (hb2.mono (by simp; exact Nat.le_succ_of_le hb1.size))⟩

set_option maxRecDepth 100000 in
set_option maxHeartbeats 2000000 in
theorem way_pos_0 (n s : Int) (R : Nat) (w : World) (h1 : -2147483648 ≤ n) (h2 : n ≤ 2147483647) (hs : s % 7 = 0) (hs0 : 0 ≤ s) (hP : ∀ t, IsInt n t → Parses (t ++ { data := #[46, 53] }) R) (hv : PowVars w) (hn : ¬ n < 0) (hv2 : floatBits .add .f64 (floatOfInt .f64 n) 4602678819172646912 = some R) (hq : (FloatKind.f64.format.order R R == some Ordering.eq) = true) : Calls Tryd.prog 4 #[.int .i32 n, .bool true, .int .u8 s] w (LawOk w) := by
  have hw1 : wrap64 n = n := by unfold wrap64; omega
  have hz : (FloatKind.f64.format.order 0 0 == some Ordering.eq) = true := by decide +kernel
  have hst : s.tmod 7 = 0 := by rw [Int.tmod_eq_emod_of_nonneg hs0]; exact hs
  have HI := Lib.hid (itoa_int n w (by omega) (by omega))
  have HP := Lib.hid hP
  have HV := Lib.hid hv
  clear hP hv
  have hmv := fun (ty : TypeId) (wx : World) => run_float_arith (P := Tryd.prog) wx .add ty .f64 _ _ _ hv2
  clear hv2
  go_enter Tryd.func4, Tryd.ntmps4
  go_wp2_with fail
  refine HI.out.mono ?_
  rintro e w1 ⟨t, rfl, ht, hb1⟩
  have hts := ht.size
  obtain ⟨hts, hts0⟩ := hts
  have HPt := Lib.hid (HP.out t ht)
  clear ht
  have hsz : (t ++ { data := #[46, 53] } : ByteArray).size = t.size + 2 := by rw [ByteArray.size_append]; rfl
  go_wp2_with (go_at_call 6; refine (zz6_of _ _ _ _ _ _ (fun wx hv' => deg_number _ R wx HPt.out hv') (HV.out.below (hb1.alloc hb1.size _))).mono ?_; rintro e w2 ⟨rfl, hb2⟩)
  all_goals go_ret
  all_goals exact ⟨rfl, (hb1.alloc hb1.size _).trans (hb2.mono (by simp; exact Nat.le_succ_of_le hb1.size))⟩

set_option maxRecDepth 100000 in
set_option maxHeartbeats 2000000 in
theorem way_pos_1 (n s : Int) (R : Nat) (w : World) (h1 : -2147483648 ≤ n) (h2 : n ≤ 2147483647) (hs : s % 7 = 1) (hs0 : 0 ≤ s) (hP : ∀ t, IsInt n t → Parses (t ++ { data := #[46, 53] }) R) (hv : PowVars w) (hn : ¬ n < 0) (hv2 : floatBits .add .f64 (floatOfInt .f64 n) 4602678819172646912 = some R) (hq : (FloatKind.f64.format.order R R == some Ordering.eq) = true) : Calls Tryd.prog 4 #[.int .i32 n, .bool true, .int .u8 s] w (LawOk w) := by
  have hw1 : wrap64 n = n := by unfold wrap64; omega
  have hz : (FloatKind.f64.format.order 0 0 == some Ordering.eq) = true := by decide +kernel
  have hst : s.tmod 7 = 1 := by rw [Int.tmod_eq_emod_of_nonneg hs0]; exact hs
  have HI := Lib.hid (itoa_int n w (by omega) (by omega))
  have HP := Lib.hid hP
  have HV := Lib.hid hv
  clear hP hv
  have hmv := fun (ty : TypeId) (wx : World) => run_float_arith (P := Tryd.prog) wx .add ty .f64 _ _ _ hv2
  clear hv2
  go_enter Tryd.func4, Tryd.ntmps4
  go_wp2_with fail
  refine HI.out.mono ?_
  rintro e w1 ⟨t, rfl, ht, hb1⟩
  have hts := ht.size
  obtain ⟨hts, hts0⟩ := hts
  have HPt := Lib.hid (HP.out t ht)
  clear ht
  have hsz : (t ++ { data := #[46, 53] } : ByteArray).size = t.size + 2 := by rw [ByteArray.size_append]; rfl
  have hux : IntKind.u16.wrap ((t ++ { data := #[46, 53] } : ByteArray).size : Int) = ((t ++ { data := #[46, 53] } : ByteArray).size : Int) := by rw [IntKind.wrap_u16, hsz]; omega
  have hsz2 : ((t ++ { data := #[46, 53] } : ByteArray) ++ { data := #[100, 101, 103] } : ByteArray).size = (t ++ { data := #[46, 53] } : ByteArray).size + 3 := by rw [ByteArray.size_append]; rfl
  have HL := Lib.hid (show (t ++ { data := #[46, 53] } : ByteArray).size ≤ ((t ++ { data := #[46, 53] } : ByteArray) ++ { data := #[100, 101, 103] } : ByteArray).size by rw [hsz2]; omega)
  have hx1 := app_left (t ++ { data := #[46, 53] } : ByteArray) { data := #[100, 101, 103] }
  have hx2 := app_right (t ++ { data := #[46, 53] } : ByteArray) { data := #[100, 101, 103] }
  have hoi : (t.size : Int) + 2 = (((t ++ { data := #[46, 53] } : ByteArray).size : Nat) : Int) := by rw [hsz]; omega
  have HX := Lib.hid (And.intro hx1 (And.intro hx2 hoi))
  clear hx1 hx2 hoi
  go_wp2_with (go_at_call 6; refine (zz6_of _ _ _ _ _ _ (fun wx hv' => deg_deg _ _ R _ _ HX.out.2.2 wx HPt.out hv' HX.out.1 HX.out.2.1 HL.out) (HV.out.below (hb1.alloc hb1.size _))).mono ?_; rintro e w2 ⟨rfl, hb2⟩)
  all_goals go_ret
  all_goals exact ⟨rfl, (hb1.alloc hb1.size _).trans (hb2.mono (by simp; exact Nat.le_succ_of_le hb1.size))⟩

set_option maxRecDepth 100000 in
set_option maxHeartbeats 2000000 in
theorem way_pos_2 (n s : Int) (R : Nat) (w : World) (h1 : -2147483648 ≤ n) (h2 : n ≤ 2147483647) (hs : s % 7 = 2) (hs0 : 0 ≤ s) (hP : ∀ t, IsInt n t → Parses (t ++ { data := #[46, 53] }) R) (hv : PowVars w) (hn : ¬ n < 0) (hv2 : floatBits .add .f64 (floatOfInt .f64 n) 4602678819172646912 = some R) (q : Nat) (hm : floatBits .mul .f64 R 4606281698874543309 = some q) (hq : (FloatKind.f64.format.order q q == some Ordering.eq) = true) : Calls Tryd.prog 4 #[.int .i32 n, .bool true, .int .u8 s] w (LawOk w) := by
  have hw1 : wrap64 n = n := by unfold wrap64; omega
  have hz : (FloatKind.f64.format.order 0 0 == some Ordering.eq) = true := by decide +kernel
  have hst : s.tmod 7 = 2 := by rw [Int.tmod_eq_emod_of_nonneg hs0]; exact hs
  have HI := Lib.hid (itoa_int n w (by omega) (by omega))
  have HP := Lib.hid hP
  have HV := Lib.hid hv
  clear hP hv
  have hmv := fun (ty : TypeId) (wx : World) => run_float_arith (P := Tryd.prog) wx .add ty .f64 _ _ _ hv2
  clear hv2
  have hmu := fun (ty : TypeId) (wx : World) => run_float_arith (P := Tryd.prog) wx .mul ty .f64 _ _ _ hm
  have HM := Lib.hid hm
  clear hm
  go_enter Tryd.func4, Tryd.ntmps4
  go_wp2_with fail
  refine HI.out.mono ?_
  rintro e w1 ⟨t, rfl, ht, hb1⟩
  have hts := ht.size
  obtain ⟨hts, hts0⟩ := hts
  have HPt := Lib.hid (HP.out t ht)
  clear ht
  have hsz : (t ++ { data := #[46, 53] } : ByteArray).size = t.size + 2 := by rw [ByteArray.size_append]; rfl
  have hux : IntKind.u16.wrap ((t ++ { data := #[46, 53] } : ByteArray).size : Int) = ((t ++ { data := #[46, 53] } : ByteArray).size : Int) := by rw [IntKind.wrap_u16, hsz]; omega
  have hsz2 : ((t ++ { data := #[46, 53] } : ByteArray) ++ { data := #[103, 114, 97, 100] } : ByteArray).size = (t ++ { data := #[46, 53] } : ByteArray).size + 4 := by rw [ByteArray.size_append]; rfl
  have HL := Lib.hid (show (t ++ { data := #[46, 53] } : ByteArray).size ≤ ((t ++ { data := #[46, 53] } : ByteArray) ++ { data := #[103, 114, 97, 100] } : ByteArray).size by rw [hsz2]; omega)
  have hx1 := app_left (t ++ { data := #[46, 53] } : ByteArray) { data := #[103, 114, 97, 100] }
  have hx2 := app_right (t ++ { data := #[46, 53] } : ByteArray) { data := #[103, 114, 97, 100] }
  have hoi : (t.size : Int) + 2 = (((t ++ { data := #[46, 53] } : ByteArray).size : Nat) : Int) := by rw [hsz]; omega
  have HX := Lib.hid (And.intro hx1 (And.intro hx2 hoi))
  clear hx1 hx2 hoi
  go_wp2_with (go_at_call 6; refine (zz6_of _ _ _ _ _ _ (fun wx hv' => deg_grad _ _ R q _ _ HX.out.2.2 wx HPt.out hv' HX.out.1 HX.out.2.1 HL.out HM.out) (HV.out.below (hb1.alloc hb1.size _))).mono ?_; rintro e w2 ⟨rfl, hb2⟩)
  all_goals go_ret
  all_goals exact ⟨rfl, (hb1.alloc hb1.size _).trans (hb2.mono (by simp; exact Nat.le_succ_of_le hb1.size))⟩

set_option maxRecDepth 100000 in
set_option maxHeartbeats 2000000 in
theorem way_pos_3 (n s : Int) (R : Nat) (w : World) (h1 : -2147483648 ≤ n) (h2 : n ≤ 2147483647) (hs : s % 7 = 3) (hs0 : 0 ≤ s) (hP : ∀ t, IsInt n t → Parses (t ++ { data := #[46, 53] }) R) (hv : PowVars w) (hn : ¬ n < 0) (hv2 : floatBits .add .f64 (floatOfInt .f64 n) 4602678819172646912 = some R) (q : Nat) (hm : floatBits .mul .f64 R 4633260481411531256 = some q) (hq : (FloatKind.f64.format.order q q == some Ordering.eq) = true) : Calls Tryd.prog 4 #[.int .i32 n, .bool true, .int .u8 s] w (LawOk w) := by
  have hw1 : wrap64 n = n := by unfold wrap64; omega
  have hz : (FloatKind.f64.format.order 0 0 == some Ordering.eq) = true := by decide +kernel
  have hst : s.tmod 7 = 3 := by rw [Int.tmod_eq_emod_of_nonneg hs0]; exact hs
  have HI := Lib.hid (itoa_int n w (by omega) (by omega))
  have HP := Lib.hid hP
  have HV := Lib.hid hv
  clear hP hv
  have hmv := fun (ty : TypeId) (wx : World) => run_float_arith (P := Tryd.prog) wx .add ty .f64 _ _ _ hv2
  clear hv2
  have hmu := fun (ty : TypeId) (wx : World) => run_float_arith (P := Tryd.prog) wx .mul ty .f64 _ _ _ hm
  have HM := Lib.hid hm
  clear hm
  go_enter Tryd.func4, Tryd.ntmps4
  go_wp2_with fail
  refine HI.out.mono ?_
  rintro e w1 ⟨t, rfl, ht, hb1⟩
  have hts := ht.size
  obtain ⟨hts, hts0⟩ := hts
  have HPt := Lib.hid (HP.out t ht)
  clear ht
  have hsz : (t ++ { data := #[46, 53] } : ByteArray).size = t.size + 2 := by rw [ByteArray.size_append]; rfl
  have hux : IntKind.u16.wrap ((t ++ { data := #[46, 53] } : ByteArray).size : Int) = ((t ++ { data := #[46, 53] } : ByteArray).size : Int) := by rw [IntKind.wrap_u16, hsz]; omega
  have hsz2 : ((t ++ { data := #[46, 53] } : ByteArray) ++ { data := #[114, 97, 100] } : ByteArray).size = (t ++ { data := #[46, 53] } : ByteArray).size + 3 := by rw [ByteArray.size_append]; rfl
  have HL := Lib.hid (show (t ++ { data := #[46, 53] } : ByteArray).size ≤ ((t ++ { data := #[46, 53] } : ByteArray) ++ { data := #[114, 97, 100] } : ByteArray).size by rw [hsz2]; omega)
  have hx1 := app_left (t ++ { data := #[46, 53] } : ByteArray) { data := #[114, 97, 100] }
  have hx2 := app_right (t ++ { data := #[46, 53] } : ByteArray) { data := #[114, 97, 100] }
  have hoi : (t.size : Int) + 2 = (((t ++ { data := #[46, 53] } : ByteArray).size : Nat) : Int) := by rw [hsz]; omega
  have HX := Lib.hid (And.intro hx1 (And.intro hx2 hoi))
  clear hx1 hx2 hoi
  go_wp2_with (go_at_call 6; refine (zz6_of _ _ _ _ _ _ (fun wx hv' => deg_rad _ _ R q _ _ HX.out.2.2 wx HPt.out hv' HX.out.1 HX.out.2.1 HL.out HM.out) (HV.out.below (hb1.alloc hb1.size _))).mono ?_; rintro e w2 ⟨rfl, hb2⟩)
  all_goals go_ret
  all_goals exact ⟨rfl, (hb1.alloc hb1.size _).trans (hb2.mono (by simp; exact Nat.le_succ_of_le hb1.size))⟩

set_option maxRecDepth 100000 in
set_option maxHeartbeats 2000000 in
theorem way_pos_4 (n s : Int) (R : Nat) (w : World) (h1 : -2147483648 ≤ n) (h2 : n ≤ 2147483647) (hs : s % 7 = 4) (hs0 : 0 ≤ s) (hP : ∀ t, IsInt n t → Parses (t ++ { data := #[46, 53] }) R) (hv : PowVars w) (hn : ¬ n < 0) (hv2 : floatBits .add .f64 (floatOfInt .f64 n) 4602678819172646912 = some R) (q : Nat) (hm : floatBits .mul .f64 R 4645040803167600640 = some q) (hq : (FloatKind.f64.format.order q q == some Ordering.eq) = true) : Calls Tryd.prog 4 #[.int .i32 n, .bool true, .int .u8 s] w (LawOk w) := by
  have hw1 : wrap64 n = n := by unfold wrap64; omega
  have hz : (FloatKind.f64.format.order 0 0 == some Ordering.eq) = true := by decide +kernel
  have hst : s.tmod 7 = 4 := by rw [Int.tmod_eq_emod_of_nonneg hs0]; exact hs
  have HI := Lib.hid (itoa_int n w (by omega) (by omega))
  have HP := Lib.hid hP
  have HV := Lib.hid hv
  clear hP hv
  have hmv := fun (ty : TypeId) (wx : World) => run_float_arith (P := Tryd.prog) wx .add ty .f64 _ _ _ hv2
  clear hv2
  have hmu := fun (ty : TypeId) (wx : World) => run_float_arith (P := Tryd.prog) wx .mul ty .f64 _ _ _ hm
  have HM := Lib.hid hm
  clear hm
  go_enter Tryd.func4, Tryd.ntmps4
  go_wp2_with fail
  refine HI.out.mono ?_
  rintro e w1 ⟨t, rfl, ht, hb1⟩
  have hts := ht.size
  obtain ⟨hts, hts0⟩ := hts
  have HPt := Lib.hid (HP.out t ht)
  clear ht
  have hsz : (t ++ { data := #[46, 53] } : ByteArray).size = t.size + 2 := by rw [ByteArray.size_append]; rfl
  have hux : IntKind.u16.wrap ((t ++ { data := #[46, 53] } : ByteArray).size : Int) = ((t ++ { data := #[46, 53] } : ByteArray).size : Int) := by rw [IntKind.wrap_u16, hsz]; omega
  have hsz2 : ((t ++ { data := #[46, 53] } : ByteArray) ++ { data := #[116, 117, 114, 110] } : ByteArray).size = (t ++ { data := #[46, 53] } : ByteArray).size + 4 := by rw [ByteArray.size_append]; rfl
  have HL := Lib.hid (show (t ++ { data := #[46, 53] } : ByteArray).size ≤ ((t ++ { data := #[46, 53] } : ByteArray) ++ { data := #[116, 117, 114, 110] } : ByteArray).size by rw [hsz2]; omega)
  have hx1 := app_left (t ++ { data := #[46, 53] } : ByteArray) { data := #[116, 117, 114, 110] }
  have hx2 := app_right (t ++ { data := #[46, 53] } : ByteArray) { data := #[116, 117, 114, 110] }
  have hoi : (t.size : Int) + 2 = (((t ++ { data := #[46, 53] } : ByteArray).size : Nat) : Int) := by rw [hsz]; omega
  have HX := Lib.hid (And.intro hx1 (And.intro hx2 hoi))
  clear hx1 hx2 hoi
  go_wp2_with (go_at_call 6; refine (zz6_of _ _ _ _ _ _ (fun wx hv' => deg_turn _ _ R q _ _ HX.out.2.2 wx HPt.out hv' HX.out.1 HX.out.2.1 HL.out HM.out) (HV.out.below (hb1.alloc hb1.size _))).mono ?_; rintro e w2 ⟨rfl, hb2⟩)
  all_goals go_ret
  all_goals exact ⟨rfl, (hb1.alloc hb1.size _).trans (hb2.mono (by simp; exact Nat.le_succ_of_le hb1.size))⟩

set_option maxRecDepth 100000 in
set_option maxHeartbeats 2000000 in
theorem way_pos_5 (n s : Int) (R : Nat) (w : World) (h1 : -2147483648 ≤ n) (h2 : n ≤ 2147483647) (hs : s % 7 = 5) (hs0 : 0 ≤ s) (hP : ∀ t, IsInt n t → Parses (t ++ { data := #[46, 53] }) R) (hv : PowVars w) (hn : ¬ n < 0) (hv2 : floatBits .add .f64 (floatOfInt .f64 n) 4602678819172646912 = some R) : Calls Tryd.prog 4 #[.int .i32 n, .bool true, .int .u8 s] w (LawOk w) := by
  have hw1 : wrap64 n = n := by unfold wrap64; omega
  have hz : (FloatKind.f64.format.order 0 0 == some Ordering.eq) = true := by decide +kernel
  have hst : s.tmod 7 = 5 := by rw [Int.tmod_eq_emod_of_nonneg hs0]; exact hs
  have HI := Lib.hid (itoa_int n w (by omega) (by omega))
  have HP := Lib.hid hP
  have HV := Lib.hid hv
  clear hP hv
  have hmv := fun (ty : TypeId) (wx : World) => run_float_arith (P := Tryd.prog) wx .add ty .f64 _ _ _ hv2
  clear hv2
  go_enter Tryd.func4, Tryd.ntmps4
  go_wp2_with fail
  refine HI.out.mono ?_
  rintro e w1 ⟨t, rfl, ht, hb1⟩
  have hts := ht.size
  obtain ⟨hts, hts0⟩ := hts
  have HPt := Lib.hid (HP.out t ht)
  clear ht
  have hsz : (t ++ { data := #[46, 53] } : ByteArray).size = t.size + 2 := by rw [ByteArray.size_append]; rfl
  have hux : IntKind.u16.wrap ((t ++ { data := #[46, 53] } : ByteArray).size : Int) = ((t ++ { data := #[46, 53] } : ByteArray).size : Int) := by rw [IntKind.wrap_u16, hsz]; omega
  have hsz2 : ((t ++ { data := #[46, 53] } : ByteArray) ++ { data := #[112, 120] } : ByteArray).size = (t ++ { data := #[46, 53] } : ByteArray).size + 2 := by rw [ByteArray.size_append]; rfl
  have HL := Lib.hid (show (t ++ { data := #[46, 53] } : ByteArray).size ≤ ((t ++ { data := #[46, 53] } : ByteArray) ++ { data := #[112, 120] } : ByteArray).size by rw [hsz2]; omega)
  have hx1 := app_left (t ++ { data := #[46, 53] } : ByteArray) { data := #[112, 120] }
  have hx2 := app_right (t ++ { data := #[46, 53] } : ByteArray) { data := #[112, 120] }
  have hoi : (t.size : Int) + 2 = (((t ++ { data := #[46, 53] } : ByteArray).size : Nat) : Int) := by rw [hsz]; omega
  have HX := Lib.hid (And.intro hx1 (And.intro hx2 hoi))
  clear hx1 hx2 hoi
  go_wp2_with (go_at_call 6; refine (zz6_of _ _ _ _ _ _ (fun wx hv' => deg_px _ _ R _ _ HX.out.2.2 wx HPt.out hv' HX.out.1 HX.out.2.1 HL.out) (HV.out.below (hb1.alloc hb1.size _))).mono ?_; rintro e w2 ⟨rfl, hb2⟩)
  all_goals go_ret
  all_goals exact ⟨rfl, (hb1.alloc hb1.size _).trans (hb2.mono (by simp; exact Nat.le_succ_of_le hb1.size))⟩

set_option maxRecDepth 100000 in
set_option maxHeartbeats 2000000 in
theorem way_pos_6 (n s : Int) (R : Nat) (w : World) (h1 : -2147483648 ≤ n) (h2 : n ≤ 2147483647) (hs : s % 7 = 6) (hs0 : 0 ≤ s) (hP : ∀ t, IsInt n t → Parses (t ++ { data := #[46, 53] }) R) (hv : PowVars w) (hn : ¬ n < 0) (hv2 : floatBits .add .f64 (floatOfInt .f64 n) 4602678819172646912 = some R) : Calls Tryd.prog 4 #[.int .i32 n, .bool true, .int .u8 s] w (LawOk w) := by
  have hw1 : wrap64 n = n := by unfold wrap64; omega
  have hz : (FloatKind.f64.format.order 0 0 == some Ordering.eq) = true := by decide +kernel
  have hst : s.tmod 7 = 6 := by rw [Int.tmod_eq_emod_of_nonneg hs0]; exact hs
  have HI := Lib.hid (itoa_int n w (by omega) (by omega))
  have HP := Lib.hid hP
  have HV := Lib.hid hv
  clear hP hv
  have hmv := fun (ty : TypeId) (wx : World) => run_float_arith (P := Tryd.prog) wx .add ty .f64 _ _ _ hv2
  clear hv2
  go_enter Tryd.func4, Tryd.ntmps4
  go_wp2_with fail
  refine HI.out.mono ?_
  rintro e w1 ⟨t, rfl, ht, hb1⟩
  have hts := ht.size
  obtain ⟨hts, hts0⟩ := hts
  have HPt := Lib.hid (HP.out t ht)
  clear ht
  have hsz : (t ++ { data := #[46, 53] } : ByteArray).size = t.size + 2 := by rw [ByteArray.size_append]; rfl
  have hux : IntKind.u16.wrap ((t ++ { data := #[46, 53] } : ByteArray).size : Int) = ((t ++ { data := #[46, 53] } : ByteArray).size : Int) := by rw [IntKind.wrap_u16, hsz]; omega
  have hsz2 : ((t ++ { data := #[46, 53] } : ByteArray) ++ { data := #[68, 69, 71] } : ByteArray).size = (t ++ { data := #[46, 53] } : ByteArray).size + 3 := by rw [ByteArray.size_append]; rfl
  have HL := Lib.hid (show (t ++ { data := #[46, 53] } : ByteArray).size ≤ ((t ++ { data := #[46, 53] } : ByteArray) ++ { data := #[68, 69, 71] } : ByteArray).size by rw [hsz2]; omega)
  have hx1 := app_left (t ++ { data := #[46, 53] } : ByteArray) { data := #[68, 69, 71] }
  have hx2 := app_right (t ++ { data := #[46, 53] } : ByteArray) { data := #[68, 69, 71] }
  have hoi : (t.size : Int) + 2 = (((t ++ { data := #[46, 53] } : ByteArray).size : Nat) : Int) := by rw [hsz]; omega
  have HX := Lib.hid (And.intro hx1 (And.intro hx2 hoi))
  clear hx1 hx2 hoi
  go_wp2_with (go_at_call 6; refine (zz6_of _ _ _ _ _ _ (fun wx hv' => deg_DEG _ _ R _ _ HX.out.2.2 wx HPt.out hv' HX.out.1 HX.out.2.1 HL.out) (HV.out.below (hb1.alloc hb1.size _))).mono ?_; rintro e w2 ⟨rfl, hb2⟩)
  all_goals go_ret
  all_goals exact ⟨rfl, (hb1.alloc hb1.size _).trans (hb2.mono (by simp; exact Nat.le_succ_of_le hb1.size))⟩
end Go.Proofs.YtkajkfopnkgoaaaDoor
