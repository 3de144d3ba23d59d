/- The size checks. -/
import Derived.Test.YtgdkncphmbdpjaaDoorProg
import Derived.Test.YtgdkncphmbdpjaaDoorBase
namespace Go.Proofs.YtgdkncphmbdpjaaDoor
open Go.RowKit

set_option maxHeartbeats 1000000 in
theorem zz_FnParseColorByteRefusesNonNumericText (s : ByteArray) (f : Nat) (w : World) (hs : s.size ≤ maxLen) :
    Calls Tryd.prog 13 #[.string s, .float .f64 f] w (BoolIf (s.size ≤ 1048576) w) := by
  unfold maxLen at hs
  go_enter Tryd.func13, Tryd.ntmps13
  go_wp2
  · go_ret; exact ⟨false, rfl, (fun h => Bool.noConfusion h), rfl⟩
  go_ret
  exact ⟨true, rfl, fun _ => (by omega), rfl⟩

set_option maxHeartbeats 1000000 in
theorem zz_FnParseAlphaByteCaseTable (s : ByteArray) (n : Int) (w : World) (hs : s.size ≤ maxLen) :
    Calls Tryd.prog 16 #[.string s, .int .i32 n] w (BoolIf (s.size ≤ 1048576) w) := by
  unfold maxLen at hs
  go_enter Tryd.func16, Tryd.ntmps16
  go_wp2
  · go_ret; exact ⟨false, rfl, (fun h => Bool.noConfusion h), rfl⟩
  go_ret
  exact ⟨true, rfl, fun _ => (by omega), rfl⟩
end Go.Proofs.YtgdkncphmbdpjaaDoor
