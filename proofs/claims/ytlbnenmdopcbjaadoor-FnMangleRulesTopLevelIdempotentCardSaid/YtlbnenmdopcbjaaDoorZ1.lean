/- The size checks. -/
import Derived.Test.YtlbnenmdopcbjaaDoorProg
import Derived.Test.YtlbnenmdopcbjaaDoorBase
set_option linter.unusedVariables false
namespace Go.Proofs.YtlbnenmdopcbjaaDoor
open Go.RowKit

set_option maxHeartbeats 1000000 in
theorem zz_FnMangleRulesTopLevelDropsExactlyEmpty (kindsa : Option Addr) (kindsn kindsc : Nat) (kindsZ : Nat → Int) (toksa : Option Addr) (toksn toksc : Nat) (toksZ : Nat → Int) (innera : Option Addr) (innern innerc : Nat) (innerZ : Nat → Int) (w : World) (hkinds : kindsn ≤ maxLen) (htoks : toksn ≤ maxLen) (hinner : innern ≤ maxLen) :
    Calls Tryd.prog 5 #[.slice kindsa kindsn kindsc, .slice toksa toksn toksc, .slice innera innern innerc] w (BoolIf (kindsn ≤ 1048576 ∧ toksn ≤ 1048576 ∧ innern ≤ 1048576) w) := by
  unfold maxLen at hkinds htoks hinner
  go_enter Tryd.func5, Tryd.ntmps5
  go_wp2
  · go_ret; exact ⟨false, rfl, (fun h => Bool.noConfusion h), rfl⟩
  · go_ret; exact ⟨false, rfl, (fun h => Bool.noConfusion h), rfl⟩
  · go_ret; exact ⟨false, rfl, (fun h => Bool.noConfusion h), rfl⟩
  · go_ret; exact ⟨false, rfl, (fun h => Bool.noConfusion h), rfl⟩
  · go_ret; exact ⟨false, rfl, (fun h => Bool.noConfusion h), rfl⟩
  go_ret
  exact ⟨true, rfl, fun _ => ⟨(by omega), (by omega), (by omega)⟩, rfl⟩

set_option maxHeartbeats 1000000 in
theorem zz_FnMangleRulesTopLevelIdempotent (kindsa : Option Addr) (kindsn kindsc : Nat) (kindsZ : Nat → Int) (toksa : Option Addr) (toksn toksc : Nat) (toksZ : Nat → Int) (innera : Option Addr) (innern innerc : Nat) (innerZ : Nat → Int) (w : World) (hkinds : kindsn ≤ maxLen) (htoks : toksn ≤ maxLen) (hinner : innern ≤ maxLen) :
    Calls Tryd.prog 10 #[.slice kindsa kindsn kindsc, .slice toksa toksn toksc, .slice innera innern innerc] w (BoolIf (kindsn ≤ 1048576 ∧ toksn ≤ 1048576 ∧ innern ≤ 1048576) w) := by
  unfold maxLen at hkinds htoks hinner
  go_enter Tryd.func10, Tryd.ntmps10
  go_wp2
  · go_ret; exact ⟨false, rfl, (fun h => Bool.noConfusion h), rfl⟩
  · go_ret; exact ⟨false, rfl, (fun h => Bool.noConfusion h), rfl⟩
  · go_ret; exact ⟨false, rfl, (fun h => Bool.noConfusion h), rfl⟩
  · go_ret; exact ⟨false, rfl, (fun h => Bool.noConfusion h), rfl⟩
  · go_ret; exact ⟨false, rfl, (fun h => Bool.noConfusion h), rfl⟩
  go_ret
  exact ⟨true, rfl, fun _ => ⟨(by omega), (by omega), (by omega)⟩, rfl⟩
end Go.Proofs.YtlbnenmdopcbjaaDoor
