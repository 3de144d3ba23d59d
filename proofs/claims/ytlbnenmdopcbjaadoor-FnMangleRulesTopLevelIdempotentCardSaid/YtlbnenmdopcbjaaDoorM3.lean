/- The places compared; the wrapper. -/
import Derived.Test.YtlbnenmdopcbjaaDoorM2
namespace Go.Proofs.YtlbnenmdopcbjaaDoor
open Go.RowKit

def Mangled (rs : List RD) (w : World) (e : Ending) (w' : World) : Prop := ∃ v a c, e = .returned v ∧ v = .slice a (rs.filter RD.keep).length c ∧ Rules w' a (rs.filter RD.keep) ∧ Below w.heap.size w w'

set_option maxRecDepth 100000 in
theorem zzmangle_any (p : Option Addr) (a : Option Addr) (n c : Nat) (rs : List RD) (w : World) (hnn : rs.length = n) (hR : Rules w a rs) (hn : n ≤ 1048576) (hL : LooksUp w) :
    Calls Tryd.prog 8 #[.pointer p, .slice a n c, .bool true] w (Mangled rs w) := by
  subst hnn
  have HM := Lib.hid (mangle_any p a c rs w hR hn hL)
  clear hR hL
  unfold Mangled
  go_enter Tryd.func8, Tryd.ntmps8
  go_wp2_with fail
  refine HM.out.mono ?_
  rintro e w1 ⟨v, a', c', rfl, rfl, hR, hb⟩
  have H := Lib.hid (And.intro hR hb)
  clear hR hb
  go_wp2
  go_ret
  exact ⟨_, _, _, rfl, rfl, H.out⟩

/-- The numbers of a slice. -/
def Ints (w : World) (a : Option Addr) (zs : List Int) : Prop := RowAt w a zs.length fun i => .int .i64 (zs.getD i 0)

set_option maxRecDepth 100000 in
set_option maxHeartbeats 1000000 in
theorem locs_any (a1 a2 : Option Addr) (n c1 c2 : Nat) (rs : List RD) (w : World) (hnn : rs.length = n) (hR : Rules w a1 rs) (hI : Ints w a2 (rs.map RD.loc)) (hn : n ≤ 1048576) (hl : ∀ r ∈ rs, -2147483648 ≤ r.loc ∧ r.loc ≤ 2147483647) :
    Calls Tryd.prog 9 #[.slice a1 n c1, .slice a2 n c2] w fun e w' => e = .returned (.bool true) ∧ Below w.heap.size w w' := by
  have HR := Lib.hid hR
  have HI := Lib.hid hI
  have HN := Lib.hid hnn
  have HL := Lib.hid hl
  clear hR hI hnn hl
  go_enter Tryd.func9, Tryd.ntmps9
  go_wp2
  go_loopw [5] (fun i wr => ∃ k : Nat, k ≤ n ∧ i = .int .i64 k ∧ Below w.heap.size w wr) (fun i _ => n - (intOf i).toNat)
  case atStart => exact ⟨0, Nat.zero_le _, rfl, Below.refl _ _⟩
  case round =>
    obtain ⟨k, hk, rfl, hb⟩ := hrel
    by_cases hlt : k < n
    · have hlt' : k < rs.length := by rw [HN.out]; exact hlt
      obtain ⟨b, o, ha, hbl, h2⟩ := HR.out.row.blk (by omega)
      subst ha
      have hc1 := (hb.cell (p := ⟨b, o + (k * 2 + 1), none⟩) hbl).trans (h2 (k * 2 + 1) (by omega))
      rw [← Nat.add_assoc, (cellsR_get rs k hlt').2] at hc1
      clear h2
      obtain ⟨b2, o2, ha2, hbl2, h3⟩ := HI.out.blk (by rw [List.length_map]; omega)
      subst ha2
      have hc2 := (hb.cell (p := ⟨b2, o2 + k, none⟩) hbl2).trans (h3 k (by rw [List.length_map]; omega))
      have e2 : (rs.map RD.loc).getD k 0 = rs[k].loc := by simp [hlt']
      rw [e2] at hc2
      have hl2 := HL.out rs[k] (List.getElem_mem _)
      clear h3 e2
      generalize rs[k].loc = l at *
      have hw : IntKind.i32.wrap l = l := by rw [IntKind.wrap_i32]; omega
      have HB := Lib.hid hb
      clear hb
      go_wp2_with fail
      go_quiet (fail)
      go_wp2
      exact ⟨⟨k + 1, hlt, by go_num, bel_drewN HB.out _⟩, by simp [intOf]; omega⟩
    · obtain rfl : k = n := by omega
      go_wp2
      go_ret
      exact ⟨rfl, hb⟩
end Go.Proofs.YtlbnenmdopcbjaaDoor
