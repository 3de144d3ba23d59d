/- degreesForAngle over texts that parse. -/
import Derived.Test.YtkajkfopnkgoaaaDoorHalfText
import Derived.Test.YtkajkfopnkgoaaaDoorHalf
namespace Go.Proofs.YtkajkfopnkgoaaaDoor
open Go.RowKit

abbrev tokD (s : ByteArray) (k o : Int) : Value := .agg #[.pointer none, .string s, .int .i32 0, .int .u32 0, .int .u16 o, .int .u8 k, .int .u8 0]
/-- ParseFloat takes the text t and answers r. -/
def Parses (t : ByteArray) (r : Nat) : Prop := ∀ wx, PowVars wx → Calls Tryd.prog 10 #[.string t, .int .i64 64] wx fun e w' => e = .returned (.tuple #[.float .f64 r, .nilIface]) ∧ wx = w'
def Degs (r : Nat) (ok : Bool) (w : World) (e : Ending) (w' : World) : Prop := e = .returned (.tuple #[.float .f64 r, .bool ok]) ∧ Below w.heap.size w w'

set_option maxRecDepth 100000 in
set_option maxHeartbeats 2000000 in
theorem deg_number (t : ByteArray) (r : Nat) (w : World) (h : Parses t r) (hv : PowVars w) : Calls Tryd.prog 9 #[tokD t 30 0] w (Degs r true w) := by
  have HP := Lib.hid h
  have HV := Lib.hid hv
  clear h hv
  go_enter Tryd.func9, Tryd.ntmps9
  go_wp2_with fail
  refine (HP.out _ (HV.out.below ((Below.refl _ _).alloc (Nat.le_refl _) _))).mono ?_
  rintro e w1 ⟨rfl, rfl⟩
  go_wp2
  go_ret2
  exact ⟨rfl, (Below.refl _ _).alloc (Nat.le_refl _) _⟩

set_option maxRecDepth 100000 in
set_option maxHeartbeats 2000000 in
theorem deg_deg (s t : ByteArray) (r o : Nat) (oi : Int) (hoi : oi = (o : Int)) (w : World) (h : Parses t r) (hv : PowVars w) (h1 : s.extract 0 o = t) (h2 : s.extract o s.size = { data := #[100, 101, 103] }) (ho : o ≤ s.size) : Calls Tryd.prog 9 #[tokD s 26 oi] w (Degs r true w) := by
  subst hoi
  have HP := Lib.hid h
  have HV := Lib.hid hv
  clear h hv
  go_enter Tryd.func9, Tryd.ntmps9
  go_wp2_with (first | (go_at_call 11; go_in) | (go_at_call 12; go_in) | (go_at_call 10; refine (HP.out _ (HV.out.below (((Below.refl _ _).alloc (Nat.le_refl _) _).alloc (by simp) _))).mono ?_; rintro e w1 ⟨rfl, rfl⟩))
  go_ret2
  exact ⟨rfl, (((Below.refl _ _).alloc (Nat.le_refl _) _).alloc (by simp) _).alloc (by simp; omega) _⟩

set_option maxRecDepth 100000 in
set_option maxHeartbeats 2000000 in
theorem deg_grad (s t : ByteArray) (r q o : Nat) (oi : Int) (hoi : oi = (o : Int)) (w : World) (h : Parses t r) (hv : PowVars w) (h1 : s.extract 0 o = t) (h2 : s.extract o s.size = { data := #[103, 114, 97, 100] }) (ho : o ≤ s.size) (hm : floatBits .mul .f64 r 4606281698874543309 = some q) : Calls Tryd.prog 9 #[tokD s 26 oi] w (Degs q true w) := by
  subst hoi
  have HP := Lib.hid h
  have HV := Lib.hid hv
  have hmu := fun (ty : TypeId) (wx : World) => run_float_arith (P := Tryd.prog) wx .mul ty .f64 _ _ _ hm
  clear hm
  clear h hv
  go_enter Tryd.func9, Tryd.ntmps9
  go_wp2_with (first | (go_at_call 11; go_in) | (go_at_call 12; go_in) | (go_at_call 10; refine (HP.out _ (HV.out.below (((Below.refl _ _).alloc (Nat.le_refl _) _).alloc (by simp) _))).mono ?_; rintro e w1 ⟨rfl, rfl⟩))
  go_ret2
  exact ⟨rfl, (((Below.refl _ _).alloc (Nat.le_refl _) _).alloc (by simp) _).alloc (by simp; omega) _⟩

set_option maxRecDepth 100000 in
set_option maxHeartbeats 2000000 in
theorem deg_rad (s t : ByteArray) (r q o : Nat) (oi : Int) (hoi : oi = (o : Int)) (w : World) (h : Parses t r) (hv : PowVars w) (h1 : s.extract 0 o = t) (h2 : s.extract o s.size = { data := #[114, 97, 100] }) (ho : o ≤ s.size) (hm : floatBits .mul .f64 r 4633260481411531256 = some q) : Calls Tryd.prog 9 #[tokD s 26 oi] w (Degs q true w) := by
  subst hoi
  have HP := Lib.hid h
  have HV := Lib.hid hv
  have hmu := fun (ty : TypeId) (wx : World) => run_float_arith (P := Tryd.prog) wx .mul ty .f64 _ _ _ hm
  clear hm
  clear h hv
  go_enter Tryd.func9, Tryd.ntmps9
  go_wp2_with (first | (go_at_call 11; go_in) | (go_at_call 12; go_in) | (go_at_call 10; refine (HP.out _ (HV.out.below (((Below.refl _ _).alloc (Nat.le_refl _) _).alloc (by simp) _))).mono ?_; rintro e w1 ⟨rfl, rfl⟩))
  go_ret2
  exact ⟨rfl, (((Below.refl _ _).alloc (Nat.le_refl _) _).alloc (by simp) _).alloc (by simp; omega) _⟩

set_option maxRecDepth 100000 in
set_option maxHeartbeats 2000000 in
theorem deg_turn (s t : ByteArray) (r q o : Nat) (oi : Int) (hoi : oi = (o : Int)) (w : World) (h : Parses t r) (hv : PowVars w) (h1 : s.extract 0 o = t) (h2 : s.extract o s.size = { data := #[116, 117, 114, 110] }) (ho : o ≤ s.size) (hm : floatBits .mul .f64 r 4645040803167600640 = some q) : Calls Tryd.prog 9 #[tokD s 26 oi] w (Degs q true w) := by
  subst hoi
  have HP := Lib.hid h
  have HV := Lib.hid hv
  have hmu := fun (ty : TypeId) (wx : World) => run_float_arith (P := Tryd.prog) wx .mul ty .f64 _ _ _ hm
  clear hm
  clear h hv
  go_enter Tryd.func9, Tryd.ntmps9
  go_wp2_with (first | (go_at_call 11; go_in) | (go_at_call 12; go_in) | (go_at_call 10; refine (HP.out _ (HV.out.below (((Below.refl _ _).alloc (Nat.le_refl _) _).alloc (by simp) _))).mono ?_; rintro e w1 ⟨rfl, rfl⟩))
  go_ret2
  exact ⟨rfl, (((Below.refl _ _).alloc (Nat.le_refl _) _).alloc (by simp) _).alloc (by simp; omega) _⟩

set_option maxRecDepth 100000 in
set_option maxHeartbeats 2000000 in
theorem deg_px (s t : ByteArray) (r o : Nat) (oi : Int) (hoi : oi = (o : Int)) (w : World) (h : Parses t r) (hv : PowVars w) (h1 : s.extract 0 o = t) (h2 : s.extract o s.size = { data := #[112, 120] }) (ho : o ≤ s.size) : Calls Tryd.prog 9 #[tokD s 26 oi] w (Degs 0 false w) := by
  subst hoi
  have HP := Lib.hid h
  have HV := Lib.hid hv
  clear h hv
  go_enter Tryd.func9, Tryd.ntmps9
  go_wp2_with (first | (go_at_call 11; go_in) | (go_at_call 12; go_in) | (go_at_call 10; refine (HP.out _ (HV.out.below (((Below.refl _ _).alloc (Nat.le_refl _) _).alloc (by simp) _))).mono ?_; rintro e w1 ⟨rfl, rfl⟩))
  go_ret2
  exact ⟨rfl, (((Below.refl _ _).alloc (Nat.le_refl _) _).alloc (by simp) _).alloc (by simp; omega) _⟩

set_option maxRecDepth 100000 in
set_option maxHeartbeats 2000000 in
theorem deg_DEG (s t : ByteArray) (r o : Nat) (oi : Int) (hoi : oi = (o : Int)) (w : World) (h : Parses t r) (hv : PowVars w) (h1 : s.extract 0 o = t) (h2 : s.extract o s.size = { data := #[68, 69, 71] }) (ho : o ≤ s.size) : Calls Tryd.prog 9 #[tokD s 26 oi] w (Degs 0 false w) := by
  subst hoi
  have HP := Lib.hid h
  have HV := Lib.hid hv
  clear h hv
  go_enter Tryd.func9, Tryd.ntmps9
  go_wp2_with (first | (go_at_call 11; go_in) | (go_at_call 12; go_in) | (go_at_call 10; refine (HP.out _ (HV.out.below (((Below.refl _ _).alloc (Nat.le_refl _) _).alloc (by simp) _))).mono ?_; rintro e w1 ⟨rfl, rfl⟩))
  go_ret2
  exact ⟨rfl, (((Below.refl _ _).alloc (Nat.le_refl _) _).alloc (by simp) _).alloc (by simp; omega) _⟩
end Go.Proofs.YtkajkfopnkgoaaaDoor
