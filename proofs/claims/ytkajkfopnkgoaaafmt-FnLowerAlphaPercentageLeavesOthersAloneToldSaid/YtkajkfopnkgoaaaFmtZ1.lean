/- The size checks. -/
import Derived.Test.YtkajkfopnkgoaaaFmtProg
import Derived.Test.YtkajkfopnkgoaaaFmtBase
namespace Go.Proofs.YtkajkfopnkgoaaaFmt
open Go.RowKit

set_option maxHeartbeats 1000000 in
theorem zz_FnLowerAlphaPercentageLeavesOthersAlone (s : ByteArray) (k : Int) (w : World) (hs : s.size ≤ maxLen) :
    Calls Tryf.prog 8 #[.string s, .int .u8 k] w (BoolIf (s.size ≤ 1048576) w) := by
  unfold maxLen at hs
  go_enter Tryf.func8, Tryf.ntmps8
  go_wp2
  · go_ret; exact ⟨false, rfl, (fun h => Bool.noConfusion h), rfl⟩
  go_ret
  exact ⟨true, rfl, fun _ => (by omega), rfl⟩
end Go.Proofs.YtkajkfopnkgoaaaFmt
