/- Walks for the laws on loadAsIndex: sizeOK, Get, loadAsIndex over the zero listing. -/
import Derived.Test.YthnfohpiiafciaaGreatFmtZ1
namespace Go.Proofs.YthnfohpiiafciaaGreatFmt
open Go.RowKit

set_option maxHeartbeats 400000 in
theorem sizeOK_any (s : ByteArray) (a : Option Addr) (n c : Nat) (S : Nat → ByteArray) (w : World) (hs : s.size ≤ 1048576) (hn : n ≤ 1048576) (hr : RowAt w a n (strAt S)) (hle : AllLeTo 1048576 (szAt S) n) :
    Calls Tryz.prog 6 #[.string s, .slice a n c] w (BoolIf True w) := by
  have Hr := Lib.hid hr
  clear hr
  have Hle := Lib.hid hle
  clear hle
  by_cases h1 : n ≤ 65536
  · go_enter Tryz.func6, Tryz.ntmps6
    go_wp2
    go_loop [5, 6] (fun z i => ∃ (k : Nat) (m : Int), k ≤ n ∧ i = .int .i64 k ∧ z = .int .i64 m ∧ 0 ≤ m ∧ m ≤ 2097152 + 1048576 * (k : Int)) (fun _ i => n - (intOf i).toNat)
    case atStart => exact ⟨0, _, Nat.zero_le _, rfl, rfl, by omega, by omega⟩
    case round =>
      obtain ⟨k, m, hk, rfl, rfl, hm0, hm1⟩ := hrel
      by_cases hlt : k < n
      · obtain ⟨b, o, ha, _, h2⟩ := Hr.out.blk (by omega)
        have h3 := h2 k hlt
        have h4 := Hle.out k hlt
        clear h2
        subst ha
        simp only [strAt, szAt] at h3 h4
        generalize hx : S k = x at h3 h4
        clear hx
        go_wp2
        exact ⟨⟨k + 1, _, by omega, by go_num, rfl, by omega, by omega⟩, by simp [intOf]; omega⟩
      · go_wp2
        go_ret
        exact ⟨_, rfl, fun _ => trivial, rfl⟩
  · go_enter Tryz.func6, Tryz.ntmps6
    go_wp2
    go_ret
    exact ⟨_, rfl, fun _ => trivial, rfl⟩

set_option maxRecDepth 100000 in
set_option maxHeartbeats 400000 in
theorem get_nil (d q : ByteArray) (w : World) (v : Value) :
    Calls Tryz.prog 13 #[.agg #[.map none, v, .string d], .string q] w fun e w' => e = .returned (.tuple #[.pointer none, .pointer none]) ∧ Below w.heap.size w w' := by
  have hm := fun (wx : World) => run_neq_map_nil (P := Tryz.prog) wx 121 9 129 none Tryz.underlying121
  go_enter Tryz.func13, Tryz.ntmps13
  go_wp2
  go_ret2
  exact ⟨rfl, (Below.refl _ _).alloc (Nat.le_refl _) _⟩
end Go.Proofs.YthnfohpiiafciaaGreatFmt
