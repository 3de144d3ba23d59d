/- fmtEFG at 'f' and nought. -/
import Derived.Test.YtodlhjdogcpffaaDoorFmtOut
namespace Go.Proofs.YtodlhjdogcpffaaDoor
open Go.RowKit

/-- The n bytes l lie in the call's own row D. -/
structure OutZ (D n : Nat) (l : List UInt8) (w0 w : World) : Prop where
  own : w.ownsRow w0.heap.size 5 1 (.slice (some ⟨D, 0, none⟩) n 24) n (l.map byteV)
  bel : Below w0.heap.size w0 w
theorem Out.less {D B m n : Nat} {l : List UInt8} {w0 w : World} (h : Out D B m n l w0 w) : OutZ D n l w0 w := ⟨h.own, h.bel⟩
theorem OutZ.open {D n : Nat} {l : List UInt8} {w0 w : World} (h : OutZ D n l w0 w) : ∃ xs, xs = l.map byteV ∧ w.ownsRow w0.heap.size 5 1 (.slice (some ⟨D, 0, none⟩) n 24) n xs := ⟨_, rfl, h.own⟩
theorem OutZ.base {D n : Nat} {l : List UInt8} {w0 w : World} (h : OutZ D n l w0 w) : w0.heap.size ≤ D ∧ n ≤ 24 ∧ l.length = n := by
  obtain ⟨h0, h1 | ⟨g, cap, cur, h1, h2, _, h3, _⟩⟩ := h.own
  · cases h1.1
  · simp only [Value.slice.injEq, Option.some.injEq, Addr.mk.injEq] at h1
    simp at h0
    omega
theorem OutZ.add {D n : Nat} {l : List UInt8} {w0 w w' : World} {o : Obj} {xs : List Value} {v : Value} (h : OutZ D n l w0 w) (hx : xs = l.map byteV) (c : UInt8) (hv : v = byteV c) (ho : w'.ownsRow w0.heap.size 5 1 (.slice (some ⟨D, 0, none⟩) (n + 1) 24) (n + 1) (xs ++ [v])) (hg : (w.alloc o).grownBy w' (some D)) : OutZ D (n + 1) (l ++ [c]) w0 w' := by
  subst hx; subst hv
  have hb := h.base.1
  refine ⟨?_, ?_⟩
  · rw [List.map_append]; exact ho
  · exact (h.bel.alloc h.bel.size o).grown hg (by simp; exact Nat.le_succ_of_le h.bel.size) (fun k hk => by cases hk; exact hb)
theorem OutZ.same {D n n' : Nat} {l l' : List UInt8} {w0 w : World} (h : OutZ D n l w0 w) (hn : n = n') (hl : l = l') : OutZ D n' l' w0 w := by subst hn; subst hl; exact h

theorem digs_zero (n i : Nat) (h : i < n) : (digs 0 n)[i]'(by rw [digs_length]; exact h) = 48 := by
  rw [digs_at 0 n i h]; simp

set_option maxRecDepth 100000 in
set_option maxHeartbeats 2000000 in
theorem efg_zero (k D : Nat) (w0 w : World) (h : OutZ D 0 [] w0 w) (hk : 0 < k) (hk4 : k ≤ 4) :
    Calls Tryd.prog 45 #[.slice (some ⟨D, 0, none⟩) 0 24, .bool false, .slice none 0 0, .int .i64 0, .int .i64 0, .int .i64 k, .int .u8 102, .bool false] w fun e w' => ∃ n, e = .returned (.slice (some ⟨D, 0, none⟩) n 24) ∧ OutZ D n ([48] ++ [46] ++ digs 0 k) w0 w' := by
  obtain ⟨i0, hi0, hi1⟩ := byte_info
  have H1 := Lib.hid h
  have hkI : (0 : Int) < k := by omega
  have hmn : min (k : Int) 0 = 0 := by omega
  have hmx : max 0 (k : Int) = k := by omega
  clear h
  go_enter Tryd.func45, Tryd.ntmps45
  obtain ⟨x2, hx2⟩ := H1.out.open
  have Hx2 := Lib.hid hx2
  clear hx2
  go_wp2_with (at_builtin; refine wpList_append_fits _ rfl _ _ 49 rfl w0.heap.size 5 i0 1 Tryd.underlying49 hi0 hi1 D _ 24 _ rfl (Hx2.out.2.alloc _) ⟨_, 0, none⟩ 1 1 [.int .u8 48] rfl rfl (one_cell _ _ _) (u8_one _) (by decide) ?_)
  intro w2 ho2 hg2
  have H2 := Lib.hid (H1.out.add Hx2.out.1 48 rfl ho2 hg2)
  clear ho2 hg2
  obtain ⟨x3, hx3⟩ := H2.out.open
  have Hx3 := Lib.hid hx3
  clear hx3
  go_wp2_with (at_builtin; refine wpList_append_fits _ rfl _ _ 49 rfl w0.heap.size 5 i0 1 Tryd.underlying49 hi0 hi1 D _ 24 _ rfl (Hx3.out.2.alloc _) ⟨_, 0, none⟩ 1 1 [.int .u8 46] rfl rfl (one_cell _ _ _) (u8_one _) (by decide) ?_)
  intro w3 ho3 hg3
  have H3 := Lib.hid (H2.out.add Hx3.out.1 46 rfl ho3 hg3)
  clear ho3 hg3
  go_wp2_with fail
  refine wp_loop_rounds 1 ?_
  rw [rounds_succ]
  go_wp2_with fail
  refine wp_loop_rounds 1 ?_
  rw [rounds_succ]
  go_wp2_with fail
  go_loopw [0, 261] (fun d i wr => ∃ c : Nat, i = .int .i64 c ∧ c ≤ k ∧ d = .slice (some ⟨D, 0, none⟩) (2 + c) 24 ∧ OutZ D (2 + c) ([48] ++ [46] ++ (digs 0 k).take c) w0 wr) (fun _ i _ => k - (intOf i).toNat)
  case atStart => exact ⟨0, rfl, Nat.zero_le _, rfl, H3.out.same rfl (by simp)⟩
  case round =>
    obtain ⟨c, rfl, hc, rfl, hout⟩ := hrel
    have HO6 := Lib.hid hout
    clear hout
    rcases Nat.lt_or_ge c k with hlt6 | hge6
    · have HB := Lib.hid (digs_zero k c hlt6)
      have hqI : (c : Int) < k := by omega
      obtain ⟨x7, hx7⟩ := HO6.out.open
      have Hx7 := Lib.hid hx7
      clear hx7
      have NHx7 := Lib.hid (show 2 + c + 1 ≤ 24 by omega)
      go_wp2_with (at_builtin; refine wpList_append_fits _ rfl _ _ 49 rfl w0.heap.size 5 i0 1 Tryd.underlying49 hi0 hi1 D _ 24 _ rfl (Hx7.out.2.alloc _) ⟨_, 0, none⟩ 1 1 [.int .u8 48] rfl rfl (one_cell _ _ _) (u8_one _) (NHx7.out) ?_)
      intro w6 ho6 hg6
      have hpu := Lib.hid (HO6.out.add Hx7.out.1 48 rfl ho6 hg6)
      clear ho6 hg6
      go_wp2
      exact ⟨⟨c + 1, by simp, by omega, rfl, hpu.out.same rfl (by rw [← HB.out, take_push])⟩, by simp [intOf]; omega⟩
    · obtain rfl : c = k := by omega
      have hfin : [48] ++ [46] ++ (digs 0 c).take c = [48] ++ [46] ++ digs 0 c := by
        rw [List.take_of_length_le (by rw [digs_length]; exact Nat.le_refl _)]
      have H9 := Lib.hid (HO6.out.same (n' := 2 + c) rfl hfin)
      clear hfin
      go_wp2
      go_ret
      exact ⟨_, rfl, H9.out⟩
end Go.Proofs.YtodlhjdogcpffaaDoor
