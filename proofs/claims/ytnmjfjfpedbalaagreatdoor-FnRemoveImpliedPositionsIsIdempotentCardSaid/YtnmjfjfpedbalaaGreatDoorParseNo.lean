/- strconv.ParseFloat on a text whose first byte begins no number (here 'z' or '#'): an error, whatever follows. -/
import Derived.Test.YtnmjfjfpedbalaaGreatDoorBase
import Derived.Test.YtnmjfjfpedbalaaGreatDoorProg
import Derived.Test.YtnmjfjfpedbalaaGreatDoorShelf
import Derived.Deep.QuietTactic
import Derived.BigQuiet
import Derived.Deep.RegionHeld3
import Derived.Handy
namespace Go.Proofs.YtnmjfjfpedbalaaGreatDoor
open Go.RowKit

set_option maxRecDepth 100000 in
set_option maxHeartbeats 1000000 in
theorem special_no (s : ByteArray) (w : World) (hs : s.size ≤ maxLen) (h0 : 0 < s.size) (b : UInt8) (hb : s[0] = b) (h1 : b = 122 ∨ b = 35) :
    Calls Tryz.prog 52 #[.string s] w fun e w' => e = .returned (.tuple #[.float .f64 0, .int .i64 0, .bool false]) ∧ w = w' := by
  unfold maxLen at hs
  rcases h1 with rfl | rfl
  all_goals
    go_enter Tryz.func52, Tryz.ntmps52
    go_wp2
    go_ret3
    exact ⟨rfl, rfl⟩

set_option maxRecDepth 100000 in
set_option maxHeartbeats 2000000 in
theorem readFloat_no (s : ByteArray) (w : World) (hs : s.size ≤ maxLen) (h0 : 0 < s.size) (b : UInt8) (hb : s[0] = b) (h1 : b = 122 ∨ b = 35) :
    Calls Tryz.prog 53 #[.string s] w fun e w' => e = .returned (.tuple #[.int .u64 0, .int .i64 0, .bool false, .bool false, .bool false, .int .i64 0, .bool false]) ∧ w = w' := by
  unfold maxLen at hs
  have hne : ¬ s = ByteArray.empty := by rintro rfl; simp at h0
  rcases h1 with rfl | rfl
  all_goals
    go_enter Tryz.func53, Tryz.ntmps53
    go_wp2
    go_step3
    go_wp2
    all_goals
      go_step3
      go_wp2
      refine wp_loop_rounds 1 ?_
      rw [rounds_succ]
      go_wp2
      rw [Exit.noGoto_ret]
      change bodyPost Tryz.prog Tryz.f53 _ _ _ _
      refine bodyPost_ret (v := .tuple #[.int .u64 0, .int .i64 0, .bool false, .bool false, .bool false, .int .i64 0, .bool false]) ?_ rfl ⟨rfl, rfl⟩
      simp [results, Tryz.results53, go_sem]

/-- What comes of it: NaN-free nought, and an error that is not nil. -/
def ParseFails (w : World) (e : Ending) (w' : World) : Prop := ∃ p, e = .returned (.tuple #[.float .f64 0, .iface 86 p]) ∧ Below w.heap.size w w'

set_option maxRecDepth 100000 in
set_option maxHeartbeats 2000000 in
theorem atof64_no (s : ByteArray) (w : World) (hs : s.size ≤ maxLen) (h0 : 0 < s.size) (b : UInt8) (hb : s[0] = b) (h1 : b = 122 ∨ b = 35) :
    Calls Tryz.prog 48 #[.string s] w fun e w' => e = .returned (.tuple #[.float .f64 0, .int .i64 0, .iface 85 (.int .i64 2)]) ∧ w = w' := by
  have HB := Lib.hid (show ∃ h : 0 < s.size, s[0] = b from ⟨h0, hb⟩)
  clear hb
  go_enter Tryz.func48, Tryz.ntmps48
  go_wp2_with fail
  refine (special_no s w hs h0 b HB.out.2 h1).mono ?_
  rintro e w' ⟨rfl, rfl⟩
  go_wp2_with fail
  refine (readFloat_no s w hs h0 b HB.out.2 h1).mono ?_
  rintro e w' ⟨rfl, rfl⟩
  go_wp2
  go_ret3
  exact ⟨rfl, rfl⟩

/-- The variable strconv.ErrSyntax holds an error. -/
def SynVar (w : World) : Prop := ∃ te pe, w.cell? ⟨1, 0, none⟩ = some (.iface te pe)
theorem SynVar.below {w w' : World} (h : SynVar w) (hb : Below w.heap.size w w') : SynVar w' := by
  obtain ⟨te, pe, h⟩ := h
  exact ⟨te, pe, (hb.cell (block_lt_of_cell h)).trans h⟩

set_option maxRecDepth 100000 in
set_option maxHeartbeats 2000000 in
theorem ParseFloat_no (s : ByteArray) (w : World) (hs : s.size ≤ 281474976710656) (h0 : 0 < s.size) (b : UInt8) (hb : s[0] = b) (h1 : b = 122 ∨ b = 35) (hv : SynVar w) :
    Calls Tryz.prog 32 #[.string s, .int .i64 64] w (ParseFails w) := by
  have HB := Lib.hid (show ∃ h : 0 < s.size, s[0] = b from ⟨h0, hb⟩)
  have HS := Lib.hid (show s.size ≤ maxLen by unfold maxLen; omega)
  clear hb
  obtain ⟨te, pe, hv⟩ := hv
  have HV := Lib.hid hv
  clear hv
  have hne : (0 : Int) < (s.size : Int) := by omega
  have hne2 : ((0 : Int) == (s.size : Int)) = false := by rw [beq_eq_false_iff_ne]; omega
  go_enter Tryz.func32, Tryz.ntmps32
  go_wp2_with (first | (go_at_call 48; refine (atof64_no s _ HS.out h0 b HB.out.2 h1).mono ?_; rintro e w' ⟨rfl, rfl⟩) | (go_at_call 39; go_in) | (go_at_call 42; go_in) | (go_at_call 40; refine (Tryz.strconv_toError_syntax _ s _ _ _ _ hs HV.out (Or.inr ⟨te, pe, rfl⟩)).mono ?_; rintro e w1 ⟨N, rfl, hN, _, hb1⟩))
  go_ret2
  exact ⟨_, rfl, hb1⟩
end Go.Proofs.YtnmjfjfpedbalaaGreatDoor
