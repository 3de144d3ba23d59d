/- parseColorByte on texts that are no numbers. -/
import Derived.Test.YtgdkncphmbdpjaaDoorParseNo
import Derived.Test.YtgdkncphmbdpjaaDoorZ1
namespace Go.Proofs.YtgdkncphmbdpjaaDoor
open Go.RowKit

abbrev tokV (s : ByteArray) (k : Int) : Value := .agg #[.pointer none, .string s, .int .i32 0, .int .u32 0, .int .u16 0, .int .u8 k, .int .u8 0]
def Refused (w : World) (e : Ending) (w' : World) : Prop := e = .returned (.tuple #[.int .u32 0, .bool false]) ∧ Below w.heap.size w w'

set_option maxRecDepth 100000 in
set_option maxHeartbeats 2000000 in
theorem pcb_ident (s : ByteArray) (f : Nat) (w : World) : Calls Tryd.prog 20 #[tokV s 29, .float .f64 f] w (Refused w) := by
  go_enter Tryd.func20, Tryd.ntmps20
  go_wp2
  go_ret2
  exact ⟨rfl, (Below.refl _ _).alloc (Nat.le_refl _) _⟩

set_option maxRecDepth 100000 in
set_option maxHeartbeats 2000000 in
theorem pcb_number_no (s : ByteArray) (f : Nat) (w : World) (hs : s.size ≤ 281474976710656) (h0 : 0 < s.size) (b : UInt8) (hb : s[0] = b) (h1 : b = 122 ∨ b = 35) (hv : SynVar w) :
    Calls Tryd.prog 20 #[tokV s 30, .float .f64 f] w (Refused w) := by
  have HB := Lib.hid (show ∃ h : 0 < s.size, s[0] = b from ⟨h0, hb⟩)
  clear hb
  go_enter Tryd.func20, Tryd.ntmps20
  go_wp2_with (go_at_call 22; refine (ParseFloat_no s _ hs h0 b HB.out.2 h1 (hv.below ((Below.refl _ _).alloc (Nat.le_refl _) _))).mono ?_; rintro e w1 ⟨p, rfl, hb1⟩)
  go_ret2
  have hz := hb1.size
  simp at hz
  exact ⟨rfl, ((Below.refl _ _).alloc (Nat.le_refl _) _).trans (hb1.mono (by simp))⟩

theorem extract_first (s : ByteArray) (h : 2 ≤ s.size) (b : UInt8) (hb : s[0] = b) : ∃ h : 0 < (s.extract 0 (s.size - 1)).size, (s.extract 0 (s.size - 1))[0] = b := by
  refine ⟨by simp; omega, ?_⟩
  rw [← hb]
  simp [ByteArray.getElem_extract]

set_option maxRecDepth 100000 in
set_option maxHeartbeats 2000000 in
theorem pcb_perc_no (s : ByteArray) (f : Nat) (w : World) (hs : s.size ≤ 281474976710656) (h0 : 2 ≤ s.size) (b : UInt8) (hb : s[0] = b) (h1 : b = 122 ∨ b = 35) (hv : SynVar w) :
    Calls Tryd.prog 20 #[tokV s 34, .float .f64 f] w (Refused w) := by
  have HB := Lib.hid (extract_first s h0 b hb)
  clear hb
  have hsz : (s.extract 0 (s.size - 1)).size = s.size - 1 := by simp
  have Hsz := Lib.hid hsz
  clear hsz
  go_enter Tryd.func20, Tryd.ntmps20
  go_wp2_with (first | (go_at_call 24; go_in) | (go_at_call 22; refine (ParseFloat_no (s.extract 0 (s.size - 1)) _ (by rw [Hsz.out]; omega) HB.out.1 b HB.out.2 h1 (hv.below (((Below.refl _ _).alloc (Nat.le_refl _) _).alloc (by simp) _))).mono ?_; rintro e w1 ⟨p, rfl, hb1⟩))
  go_ret2
  have hz := hb1.size
  simp at hz
  exact ⟨rfl, (((Below.refl _ _).alloc (Nat.le_refl _) _).alloc (by simp) _).trans (hb1.mono (by simp; omega))⟩
end Go.Proofs.YtgdkncphmbdpjaaDoor
