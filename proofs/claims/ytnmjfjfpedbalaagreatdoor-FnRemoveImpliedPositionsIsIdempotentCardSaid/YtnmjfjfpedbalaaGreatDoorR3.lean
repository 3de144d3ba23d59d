/- What tryToParseValue answers at each token that zzPosTokens makes. -/
import Derived.Test.YtnmjfjfpedbalaaGreatDoorTtv
import Derived.Test.YtnmjfjfpedbalaaGreatDoorItoa
namespace Go.Proofs.YtnmjfjfpedbalaaGreatDoor
open Go.RowKit
set_option linter.unusedVariables false
theorem app_left (a b : ByteArray) : (a ++ b).extract 0 a.size = a := ByteArray.extract_append_eq_left rfl
theorem app_right (a b : ByteArray) : (a ++ b).extract a.size (a ++ b).size = b := by
  apply ByteArray.ext
  rw [ByteArray.data_extract, ByteArray.data_append]
  have h1 : a.size = a.data.size := rfl
  have h2 : (a ++ b).size = a.data.size + b.data.size := by rw [ByteArray.size_append]; rfl
  have h3 : b.size = b.data.size := rfl
  rw [h1, h2, Array.extract_append]
  have e1 : a.data.extract a.data.size (a.data.size + b.data.size) = #[] := by simp
  have e2 : a.data.size + b.data.size - a.data.size = b.data.size := by omega
  rw [e1, Nat.sub_self, e2, Array.extract_size, Array.empty_append]
theorem IsInt.size {n : Int} {t : ByteArray} (h : IsInt n t) : t.size ≤ 19 ∧ 0 < t.size := by
  obtain ⟨N, h1, h2, _, _, rfl⟩ := h
  show ((if n < 0 then [(45 : UInt8)] else []) ++ digs n.natAbs N).toArray.size ≤ 19 ∧ 0 < ((if n < 0 then [(45 : UInt8)] else []) ++ digs n.natAbs N).toArray.size
  have := digs_length n.natAbs N
  split <;> simp [this] <;> omega
theorem parses_whole (n : Int) (h : n.natAbs < 4503599627370496) (t : ByteArray) (ht : IsInt n t) : ∃ neg m, m < 4503599627370496 ∧ Parses t (fint neg m) := ⟨_, _, h, fun wx hv => ParseFloat_whole t _ _ wx (ht.whole h) hv.flt⟩
def Degs (r : Nat) (ok : Bool) (w : World) (e : Ending) (w' : World) : Prop := e = .returned (.tuple #[.float .f64 r, .bool ok]) ∧ Below w.heap.size w w'
set_option maxRecDepth 100000 in
set_option maxHeartbeats 2000000 in
theorem deg_px (s t : ByteArray) (r o : Nat) (w : World) (h : Parses t r) (hv : PowVars w) (h1 : s.extract 0 o = t) (h2 : s.extract o s.size = { data := #[112, 120] }) (ho : o ≤ s.size) : Calls Tryz.prog 30 #[tokU 26 s 0 o] w (Degs 0 false w) := by
  have HP := Lib.hid h
  have HV := Lib.hid hv
  clear h hv
  go_enter Tryz.func30, Tryz.ntmps30
  go_wp2_with (first | (go_at_call 27; go_in) | (go_at_call 33; go_in) | (go_at_call 32; refine (HP.out _ (HV.out.below (((Below.refl _ _).alloc (Nat.le_refl _) _).alloc (by simp) _))).mono ?_; rintro e w1 ⟨rfl, rfl⟩))
  go_ret2
  exact ⟨rfl, (((Below.refl _ _).alloc (Nat.le_refl _) _).alloc (by simp) _).alloc (by simp; omega) _⟩
set_option maxRecDepth 100000 in
set_option maxHeartbeats 2000000 in
theorem ttv_func (p : Option Addr) (s : ByteArray) (kind : Int) (w : World) : Calls Tryz.prog 17 #[.agg #[.pointer p, .string s, .int .i32 0, .int .u32 0, .int .u16 0, .int .u8 27, .int .u8 0], .int .u8 kind] w (Got 0 { data := #[] } false w) := by
  have e := heap_alloc_new (w.alloc (.cells #[.pointer p, .string s, .int .i32 0, .int .u32 0, .int .u16 0, .int .u8 27, .int .u8 0] 37)) (.cells #[.string { data := #[] }, .float .f64 0] 57)
  rw [show (w.alloc (.cells #[.pointer p, .string s, .int .i32 0, .int .u32 0, .int .u16 0, .int .u8 27, .int .u8 0] 37)).heap.size = w.heap.size + 1 by simp] at e
  by_cases hk : kind = 2
  · subst hk
    go_enter Tryz.func17, Tryz.ntmps17
    go_wp2_with fail
    exact bodyPost_ret (results_row_tmp rfl _ _ (w.heap.size + 1) 57 _ (0, 0) _ rfl e Tryz.underlying57 rfl (by kernel_rfl)) rfl ⟨rfl, (((Below.refl _ _).alloc (Nat.le_refl _) _).alloc (by simp) _)⟩
  · have hk2 : (kind == 2) = false := by simp [hk]
    go_enter Tryz.func17, Tryz.ntmps17
    go_wp2_with fail
    exact bodyPost_ret (results_row_tmp rfl _ _ (w.heap.size + 1) 57 _ (0, 0) _ rfl e Tryz.underlying57 rfl (by kernel_rfl)) rfl ⟨rfl, (((Below.refl _ _).alloc (Nat.le_refl _) _).alloc (by simp) _)⟩
set_option maxRecDepth 100000 in
set_option maxHeartbeats 2000000 in
theorem ttv_conic (s t : ByteArray) (r o : Nat) (w : World) (h : Parses t r) (hv : PowVars w) (h1 : s.extract 0 o = t) (h2 : s.extract o s.size = { data := #[112, 120] }) (ho : o ≤ s.size) : Calls Tryz.prog 17 #[tokU 26 s 0 o, .int .u8 2] w (Got 0 { data := #[] } false w) := by
  have e := heap_alloc_new (w.alloc (.cells #[.pointer none, .string s, .int .i32 0, .int .u32 0, .int .u16 o, .int .u8 26, .int .u8 0] 37)) (.cells #[.string { data := #[] }, .float .f64 0] 57)
  rw [show (w.alloc (.cells #[.pointer none, .string s, .int .i32 0, .int .u32 0, .int .u16 o, .int .u8 26, .int .u8 0] 37)).heap.size = w.heap.size + 1 by simp] at e
  have HD := Lib.hid (fun wx hx => deg_px s t r o wx h hx h1 h2 ho)
  have HV := Lib.hid hv
  have HE := Lib.hid e
  clear h hv h1 h2 ho e
  go_enter Tryz.func17, Tryz.ntmps17
  go_wp2_with fail
  refine (HD.out _ (HV.out.below (((Below.refl _ _).alloc (Nat.le_refl _) _).alloc (by simp) _))).mono ?_
  rintro e w1 ⟨rfl, hb1⟩
  have H1 := Lib.hid (And.intro ((hb1.block _ (by simp)).trans HE.out) ((((Below.refl w.heap.size w).alloc (Nat.le_refl _) _).alloc (by simp) _).trans (hb1.mono (by simp; omega))))
  clear hb1
  go_wp2_with fail
  exact bodyPost_ret (results_row_tmp rfl _ _ (w.heap.size + 1) 57 _ (0, 0) _ rfl H1.out.1 Tryz.underlying57 rfl (by kernel_rfl)) rfl ⟨rfl, H1.out.2⟩
/-- The token's value is told: one answer at every world. -/
def TokOk (kind : Int) (t : TD) (r : Nat) (u : ByteArray) (ok : Bool) : Prop := ∀ wx, PowVars wx → Calls Tryz.prog 17 #[.agg (TD.cs t), .int .u8 kind] wx (Got r u ok wx)
/-- A token that zzPosTokens makes at place j. -/
def IsTok (q : Pos) (j : Nat) (t : TD) : Prop := (∃ p, t = ⟨some p, { data := #[99, 97, 108, 99] }, 0, 27⟩) ∨ ∃ num, IsInt (q.v + 5 * j) num ∧ (t = ⟨none, num ++ { data := #[112, 120] }, num.size, 26⟩ ∨ t = ⟨none, num ++ { data := #[37] }, 0, 34⟩)
theorem isTok_ok (kind : Int) (q : Pos) (j : Nat) (t : TD) (h : IsTok q j t) (hv : (q.v + 5 * j).natAbs < 4503599627370496) : ∃ r u ok, TokOk kind t r u ok ∧ ∃ neg m, m < 4503599627370496 ∧ r = fint neg m := by
  rcases h with ⟨p, rfl⟩ | ⟨num, hn, rfl | rfl⟩
  · exact ⟨_, _, _, fun wx _ => ttv_func (some p) _ kind wx, false, 0, by decide, rfl⟩
  · obtain ⟨neg, m, hm, hr⟩ := parses_whole _ hv num hn
    generalize hr0 : fint neg m = r at hr
    have hsz := hn.size
    have hle : num.size ≤ (num ++ ({ data := #[112, 120] } : ByteArray)).size := by rw [ByteArray.size_append]; omega
    by_cases hk : kind = 2
    · subst hk
      exact ⟨_, _, _, fun wx hx => ttv_conic _ num r num.size wx hr hx (app_left _ _) (app_right _ _) hle, false, 0, by decide, rfl⟩
    · exact ⟨_, _, _, fun wx hx => ttv_dim num _ _ r num.size kind 0 wx hr hx (app_left _ _) (app_right _ _) hle (by rw [ByteArray.size_append]; show num.size + 2 ≤ _; omega) hk, neg, m, hm, hr0.symm⟩
  · obtain ⟨neg, m, hm, hr⟩ := parses_whole _ hv num hn
    generalize hr0 : fint neg m = r at hr
    have hsz := hn.size
    have e : (num ++ ({ data := #[37] } : ByteArray)).size = num.size + 1 := by rw [ByteArray.size_append]; rfl
    exact ⟨_, _, _, fun wx hx => ttv_pct num _ r kind 0 0 wx hr hx (by show (num ++ _).extract 0 ((num ++ _).size - 1) = num; rw [e, Nat.add_sub_cancel]; exact app_left _ _) (by show 0 < (num ++ _).size; omega) (by show (num ++ _).size ≤ _; omega), neg, m, hm, hr0.symm⟩
end Go.Proofs.YtnmjfjfpedbalaaGreatDoor
