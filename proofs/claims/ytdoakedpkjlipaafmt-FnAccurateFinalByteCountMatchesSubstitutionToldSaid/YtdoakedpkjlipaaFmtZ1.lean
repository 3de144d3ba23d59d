/- The size check. -/
import Derived.Test.YtdoakedpkjlipaaFmtProg
import Derived.Test.YtdoakedpkjlipaaFmtBase
namespace Go.Proofs.YtdoakedpkjlipaaFmt
open Go.RowKit
set_option linter.unusedVariables false
abbrev slcAt (A : Nat → Option Addr) (N C : Nat → Nat) : Nat → Value := fun i => .slice (A i) (N i) (C i)

set_option maxHeartbeats 1000000 in
theorem zz_FnAccurateFinalByteCountMatchesSubstitution (pub : ByteArray) (rela : Option Addr) (reln relc : Nat) (relS : Nat → ByteArray) (data : Option Addr) (datn datc : Nat) (datA : Nat → Option Addr) (datN datC : Nat → Nat) (idxa : Option Addr) (idxn idxc : Nat) (idxZ : Nat → Int) (kdsa : Option Addr) (kdsn kdsc : Nat) (kdsZ : Nat → Int) (dir : ByteArray) (w : World) (hpub : pub.size ≤ maxLen) (hrel : reln ≤ maxLen) (hrrel : RowAt w rela reln (strAt relS)) (hdat : datn ≤ maxLen) (hrdat : RowAt w data datn (slcAt datA datN datC)) (hidx : idxn ≤ maxLen) (hkds : kdsn ≤ maxLen) (hdir : dir.size ≤ maxLen) :
    Calls Tryf.prog 4 #[.string pub, .slice rela reln relc, .slice data datn datc, .slice idxa idxn idxc, .slice kdsa kdsn kdsc, .string dir] w (BoolIf (pub.size ≤ 1048576 ∧ reln ≤ 1048576 ∧ AllLeTo 1048576 (szAt relS) reln ∧ datn ≤ 1048576 ∧ AllLeTo 1048576 (datN) datn ∧ idxn ≤ 1048576 ∧ kdsn ≤ 1048576 ∧ dir.size ≤ 1048576) w) := by
  unfold maxLen at hpub hrel hdat hidx hkds hdir
  have Hrrel := Lib.hid hrrel
  clear hrrel
  have Hrdat := Lib.hid hrdat
  clear hrdat
  go_enter Tryf.func4, Tryf.ntmps4
  go_wp2
  · go_ret; exact ⟨false, rfl, (fun h => Bool.noConfusion h), rfl⟩
  · go_ret; exact ⟨false, rfl, (fun h => Bool.noConfusion h), rfl⟩
  · go_ret; exact ⟨false, rfl, (fun h => Bool.noConfusion h), rfl⟩
  go_loop [13, 14] (fun z i => ∃ (k : Nat) (m : Int), k ≤ reln ∧ i = .int .i64 k ∧ z = .int .i64 m ∧ 0 ≤ m ∧ m ≤ 1048576 ∧ AllLeTo 1048576 (szAt relS) k) (fun _ i => reln - (intOf i).toNat)
  case atStart => exact ⟨0, _, Nat.zero_le _, rfl, rfl, by omega, by omega, AllLeTo.zero _ _⟩
  case round =>
    obtain ⟨k, m, hk, rfl, rfl, hm0, hm1, hle⟩ := hrel
    by_cases hlt : k < reln
    · obtain ⟨b, o, ha, _, h2⟩ := Hrrel.out.blk (by omega)
      have h3 := h2 k hlt
      clear h2
      subst ha
      have HLE := Lib.hid hle
      clear hle
      simp only [strAt] at h3
      generalize hx : relS k = x at h3
      have HX := Lib.hid hx
      clear hx
      go_wp2
      · go_ret; exact ⟨false, rfl, (fun h => Bool.noConfusion h), rfl⟩
      · go_ret; exact ⟨false, rfl, (fun h => Bool.noConfusion h), rfl⟩
      · exact ⟨⟨k + 1, _, by omega, by go_num, rfl, by omega, by omega, HLE.out.succ (by show (relS k).size ≤ _; rw [HX.out]; omega)⟩, by simp [intOf]; omega⟩
    · have HLrel : Hid (AllLeTo 1048576 (szAt relS) reln) := fun i hi => hle i (by omega)
      clear hle
      go_wp2
      · go_ret; exact ⟨false, rfl, (fun h => Bool.noConfusion h), rfl⟩
      · go_ret; exact ⟨false, rfl, (fun h => Bool.noConfusion h), rfl⟩
      go_loop [13, 15] (fun z i => ∃ (k : Nat) (m : Int), k ≤ datn ∧ i = .int .i64 k ∧ z = .int .i64 m ∧ 0 ≤ m ∧ m ≤ 1048576 ∧ AllLeTo 1048576 (datN) k) (fun _ i => datn - (intOf i).toNat)
      case atStart => exact ⟨0, _, Nat.zero_le _, rfl, rfl, by omega, by omega, AllLeTo.zero _ _⟩
      case round =>
        obtain ⟨k, m, hk, rfl, rfl, hm0, hm1, hle⟩ := hrel
        by_cases hlt : k < datn
        · obtain ⟨b, o, ha, _, h2⟩ := Hrdat.out.blk (by omega)
          have h3 := h2 k hlt
          clear h2
          subst ha
          have HLE := Lib.hid hle
          clear hle
          simp only [slcAt] at h3
          generalize hx : datN k = x at h3
          have HX := Lib.hid hx
          clear hx
          generalize datA k = xa at h3
          generalize datC k = xc at h3
          go_wp2
          · go_ret; exact ⟨false, rfl, (fun h => Bool.noConfusion h), rfl⟩
          · go_ret; exact ⟨false, rfl, (fun h => Bool.noConfusion h), rfl⟩
          · exact ⟨⟨k + 1, _, by omega, by go_num, rfl, by omega, by omega, HLE.out.succ (by show datN k ≤ _; rw [HX.out]; omega)⟩, by simp [intOf]; omega⟩
        · have HLdat : Hid (AllLeTo 1048576 (datN) datn) := fun i hi => hle i (by omega)
          clear hle
          go_wp2
          · go_ret; exact ⟨false, rfl, (fun h => Bool.noConfusion h), rfl⟩
          · go_ret; exact ⟨false, rfl, (fun h => Bool.noConfusion h), rfl⟩
          · go_ret; exact ⟨false, rfl, (fun h => Bool.noConfusion h), rfl⟩
          · go_ret; exact ⟨false, rfl, (fun h => Bool.noConfusion h), rfl⟩
          · go_ret; exact ⟨false, rfl, (fun h => Bool.noConfusion h), rfl⟩
          · go_ret; exact ⟨false, rfl, (fun h => Bool.noConfusion h), rfl⟩
          go_ret
          exact ⟨true, rfl, fun _ => ⟨(by omega), (by omega), HLrel.out, (by omega), HLdat.out, (by omega), (by omega), (by omega)⟩, rfl⟩
end Go.Proofs.YtdoakedpkjlipaaFmt
