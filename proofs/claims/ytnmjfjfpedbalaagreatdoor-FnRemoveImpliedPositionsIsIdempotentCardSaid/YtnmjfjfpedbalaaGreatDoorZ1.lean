/- The size check. -/
import Derived.Test.YtnmjfjfpedbalaaGreatDoorProg
import Derived.Test.YtnmjfjfpedbalaaGreatDoorBase
namespace Go.Proofs.YtnmjfjfpedbalaaGreatDoor
open Go.RowKit
set_option linter.unusedVariables false

set_option maxHeartbeats 1000000 in
theorem zz_FnRemoveImpliedPositionsIsIdempotent (kind : Int) (shapea : Option Addr) (shapen shapec : Nat) (shapeZ : Nat → Int) (valsa : Option Addr) (valsn valsc : Nat) (valsZ : Nat → Int) (w : World) (hshape : shapen ≤ maxLen) (hvals : valsn ≤ maxLen) :
    Calls Tryz.prog 4 #[.int .u8 kind, .slice shapea shapen shapec, .slice valsa valsn valsc] w (BoolIf (shapen ≤ 1048576 ∧ valsn ≤ 1048576) w) := by
  unfold maxLen at hshape hvals
  go_enter Tryz.func4, Tryz.ntmps4
  go_wp2
  · go_ret; exact ⟨false, rfl, (fun h => Bool.noConfusion h), rfl⟩
  · go_ret; exact ⟨false, rfl, (fun h => Bool.noConfusion h), rfl⟩
  · go_ret; exact ⟨false, rfl, (fun h => Bool.noConfusion h), rfl⟩
  go_ret
  exact ⟨true, rfl, fun _ => ⟨(by omega), (by omega)⟩, rfl⟩
end Go.Proofs.YtnmjfjfpedbalaaGreatDoor
