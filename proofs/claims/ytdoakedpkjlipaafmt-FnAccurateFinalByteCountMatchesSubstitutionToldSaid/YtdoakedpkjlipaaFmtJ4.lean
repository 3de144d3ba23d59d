/- Offsets moved over bytes and over a text. -/
import Derived.Test.YtdoakedpkjlipaaFmtJ3
namespace Go.Proofs.YtdoakedpkjlipaaFmt
open Go.RowKit
set_option linter.unusedVariables false

theorem tabs_grown {w w' : World} {b : Nat} (h : Lib.Utf8Tabs 0 1 w) (hg : w.grownBy w' (some b)) (hb : 2 ≤ b) : Lib.Utf8Tabs 0 1 w' := by
  have key : ∀ k o v, k < 2 → w.cell? ⟨k, o, none⟩ = some v → w'.cell? ⟨k, o, none⟩ = some v := by
    intro k o v hk hv
    exact hg.cell hv (fun e => by have := Option.some.inj e; simp at this; omega)
  exact ⟨fun c hc => key _ _ _ (by decide) (h.1 c hc), fun i hi => ⟨key _ _ _ (by decide) (h.2 i hi).1, key _ _ _ (by decide) (h.2 i hi).2⟩⟩
def sliceLen (v : Value) : Nat := match v with | .slice _ n _ => n | _ => 0
set_option maxRecDepth 100000 in
set_option maxHeartbeats 2000000 in
theorem advB_any (b o n : Nat) (T : TypeId) (da : Option Addr) (N c : Nat) (d : Nat → UInt8) (w : World) (h : Nums w b T n) (ho : o + 1 < n) (h2 : 2 ≤ b) (hT : Lib.Utf8Tabs 0 1 w) (hr : RowAt w da N (byteAt d)) (hN : N ≤ 1048576) (hc : N ≤ c) (hc2 : c ≤ maxLen)
    (hne : ∀ b' o', 0 < N → da = some ⟨b', o', none⟩ → b' ≠ b) :
    Calls Tryf.prog 22 #[.pointer (some ⟨b, o, none⟩), .slice da N c] w (Turned b T n w) := by
  obtain ⟨c1, hc1⟩ := h.cell (i := o + 1) ho
  have f1 := h.free (o + 1)
  have hb := h.lt
  have H := Lib.hid h
  have HT := Lib.hid hT
  have HR := Lib.hid hr
  have HNE := Lib.hid hne
  clear h hT hr hne
  unfold maxLen at hc2
  go_enter Tryf.func22, Tryf.ntmps22
  go_wp2_with fail
  go_loopw [1, 4] (fun v z wr => ∃ (p c' : Nat) (a' : Option Addr) (m : Int), p ≤ N ∧ v = .slice a' (N - p) c' ∧ N - p ≤ c' ∧ c' ≤ 9223372036854775807 ∧ z = .int .i64 m ∧ (p < N → ∃ b' o', da = some ⟨b', o', none⟩ ∧ a' = some ⟨b', o' + p, none⟩) ∧ w.grownBy wr (some b) ∧ Nums wr b T n) (fun v _ _ => sliceLen v)
  case atStart => exact ⟨0, c, da, _, Nat.zero_le _, rfl, by omega, by omega, rfl, fun h0 => by obtain ⟨b', o', e, _⟩ := HR.out h0; exact ⟨b', o', e, by rw [e]; rfl⟩, grown_refl _ _, H.out⟩
  case round =>
    obtain ⟨p, c', a', m, hp, rfl, hc', hc3, rfl, ha, hg, hn⟩ := hrel
    by_cases hlt : p < N
    · obtain ⟨b', o', hda, rfl⟩ := ha hlt
      have hne := HNE.out b' o' (by omega) hda
      obtain ⟨b2, o2, e2, hcell⟩ := HR.out (by omega)
      rw [hda] at e2
      simp only [Option.some.injEq, Addr.mk.injEq, and_true] at e2
      obtain ⟨rfl, rfl⟩ := e2
      have hcell' : ∀ j, j < N → wr.cell? ⟨b', o' + j, none⟩ = some (byteAt d j) := fun j hj => hg.cell (hcell j hj) (fun e => hne (Option.some.inj e))
      have HC := Lib.hid hcell'
      have hTr := tabs_grown HT.out hg h2
      have HD := Lib.hid (dec_any d p (N - p) b' (o' + p) c' wr (by omega) hTr (fun j hj => by have := hcell' (p + j) (by omega); rwa [← Nat.add_assoc] at this))
      have HG := Lib.hid hg
      have HN := Lib.hid hn
      have hpos : 0 < N - p := by omega
      clear hcell hcell' hTr hg hn ha
      subst hda
      go_wp2_with fail
      refine HD.out.mono ?_
      rintro e w1 ⟨r, k, rfl, hk1, hk2, hb1⟩
      have n1 : Nums w1 b T n := HN.out.block (hb1.block b HN.out.lt)
      obtain ⟨x0, hx0⟩ := n1.cell (i := o) (by omega)
      have g0 := n1.free o
      have gl := n1.lt
      have hgw := grown_below HG.out hb1
      have hnx : p + k < N → w1.cell? ⟨b', o' + p + k, none⟩ = some (.int .u8 (d (p + k)).toNat) := fun hq => by
        have hq2 := HC.out (p + k) hq
        rw [← Nat.add_assoc] at hq2
        exact (hb1.cell (block_lt_of_cell hq2)).trans hq2
      have HB1 := Lib.hid (And.intro n1 hgw)
      clear hb1 n1 hgw
      by_cases hrem : p + k < N
      · have hx := hnx hrem
        have hr0 : 0 < N - p - k := by omega
        clear hnx
        generalize (d (p + k)).toNat = y at hx
        have hkc : k < c' := by omega
        go_wp2_with fail
        all_goals
          go_roundw
          case rel => exact ⟨p + k, _, _, _, by omega, by rw [Nat.sub_sub], by omega, by omega, rfl, fun _ => ⟨_, _, rfl, by rw [Nat.add_assoc]⟩, by repeat (first | exact HB1.out.2 | refine grown_set ?_ _ _), by repeat (first | exact HB1.out.1 | refine Nums.set ?_ _ _)⟩
          case measure => simp [sliceLen]; omega
      · have hr0 : N - p - k = 0 := by omega
        clear hnx
        go_wp2_with fail
        all_goals
          go_roundw
          case rel => exact ⟨p + k, _, _, _, by omega, by rw [show N - (p + k) = 0 by omega], by omega, by omega, rfl, fun h => absurd h hrem, by repeat (first | exact HB1.out.2 | refine grown_set ?_ _ _), by repeat (first | exact HB1.out.1 | refine Nums.set ?_ _ _)⟩
          case measure => simp [sliceLen]; omega
    · have hpn : N - p = 0 := by omega
      obtain ⟨x1, hx1⟩ := hn.cell (i := o + 1) ho
      have g1 := hn.free (o + 1)
      have gl := hn.lt
      rw [hpn]
      have HG := Lib.hid hg
      have HN := Lib.hid hn
      clear hg hn hpn ha hlt
      go_wp2_with fail
      go_end0
      exact ⟨rfl, grown_set HG.out _ _, HN.out.set _ _⟩
theorem iterPos_of {w : World} {k : Nat} {s : ByteArray} {p : Nat} (h : w.heap[k]? = some (.stringIter s p)) : w.iterPos k = p := by simp [World.iterPos, h]
theorem grown_iterAt {w wr : World} {b k : Nat} {s : ByteArray} (h : w.grownBy wr (some b)) (hk : w.heap.size ≤ k) (p : Nat) : w.grownBy (wr.iterAt k s p) (some b) :=
  ⟨h.os, h.tape, h.output, by rw [Lib.iterAt_size]; exact h.size, fun j hj hne => (Lib.iterAt_other _ _ _ _ _ (by omega)).trans (h.block j hj hne)⟩
set_option maxRecDepth 100000 in
set_option maxHeartbeats 2000000 in
theorem advS_any (b o n : Nat) (T : TypeId) (s : ByteArray) (w : World) (h : Nums w b T n) (ho : o + 1 < n) (hs : s.size ≤ 4194304) :
    Calls Tryf.prog 25 #[.pointer (some ⟨b, o, none⟩), .string s] w (Turned b T n w) := by
  obtain ⟨c1, hc1⟩ := h.cell (i := o + 1) ho
  have f1 := h.free (o + 1)
  have hb := h.lt
  have H := Lib.hid h
  clear h
  go_enter Tryf.func25, Tryf.ntmps25
  go_wp2_with fail
  go_loopw [4] (fun z wr => ∃ (pos : Nat) (m : Int), wr.heap[w.heap.size]? = some (.stringIter s pos) ∧ z = .int .i64 m ∧ w.grownBy wr (some b) ∧ Nums wr b T n) (fun _ wr => s.size - wr.iterPos w.heap.size)
  case atStart => exact ⟨0, _, World.iter_heap w s 0, rfl, grown_alloc (grown_refl _ _) _, H.out.alloc _⟩
  case round =>
    obtain ⟨pos, m, hit, rfl, hg, hn⟩ := hrel
    have hpos0 := iterPos_of hit
    by_cases hp : pos < s.size
    · have hnx : ∀ ty, (Instr.next (.pointer (some ⟨w.heap.size, 0, none⟩)) true ty).run Tryf.prog wr = _ := fun ty => Lib.run_next_any_at wr w.heap.size s pos ty hit hp
      have hwd := Lib.width_pos s pos
      have hit2 := Lib.iterAt_heap wr w.heap.size s pos (pos + (Utf8.decode s pos).2) hit
      have hg2 := grown_iterAt hg (Nat.le_refl _) (s := s) (pos + (Utf8.decode s pos).2)
      have hn2 : Nums (wr.iterAt w.heap.size s (pos + (Utf8.decode s pos).2)) b T n := hn.block (Lib.iterAt_other _ _ _ _ _ (by omega))
      obtain ⟨W1, hW1⟩ : ∃ W1, W1 = wr.iterAt w.heap.size s (pos + (Utf8.decode s pos).2) := ⟨_, rfl⟩
      rw [← hW1] at hnx hit2 hg2 hn2
      obtain ⟨x0, hx0⟩ := hn2.cell (i := o) (by omega)
      have g0 := hn2.free o
      have gl := hn2.lt
      have HX := Lib.hid (And.intro hit2 (And.intro hg2 hn2))
      have HP := Lib.hid hpos0
      clear hW1 hit hg hn hit2 hg2 hn2 hpos0
      generalize (Utf8.decode s pos).2 = wd at *
      generalize (Utf8.decode s pos).1 = rn at *
      by_cases hrem : pos + 1 < s.size
      · go_wp2_with fail
        all_goals
          go_roundw
          case rel => first
            | exact ⟨_, _, HX.out.1, rfl, HX.out.2.1, HX.out.2.2⟩
            | exact ⟨_, _, (heap_setCell_other _ _ _ _ (show w.heap.size ≠ b by omega)).trans HX.out.1, rfl, grown_set HX.out.2.1 _ _, HX.out.2.2.set _ _⟩
          case measure => first
            | (rw [iterPos_of HX.out.1, HP.out]; omega)
            | (rw [iterPos_of ((heap_setCell_other _ _ _ _ (show w.heap.size ≠ b by omega)).trans HX.out.1), HP.out]; omega)
      · go_wp2_with fail
        all_goals
          go_roundw
          case rel => first
            | exact ⟨_, _, HX.out.1, rfl, HX.out.2.1, HX.out.2.2⟩
            | exact ⟨_, _, (heap_setCell_other _ _ _ _ (show w.heap.size ≠ b by omega)).trans HX.out.1, rfl, grown_set HX.out.2.1 _ _, HX.out.2.2.set _ _⟩
          case measure => first
            | (rw [iterPos_of HX.out.1, HP.out]; omega)
            | (rw [iterPos_of ((heap_setCell_other _ _ _ _ (show w.heap.size ≠ b by omega)).trans HX.out.1), HP.out]; omega)
    · have hnx : ∀ ty, (Instr.next (.pointer (some ⟨w.heap.size, 0, none⟩)) true ty).run Tryf.prog wr = _ := fun ty => Lib.run_next_end_at wr w.heap.size s pos ty hit hp
      obtain ⟨x1, hx1⟩ := hn.cell (i := o + 1) ho
      have g1 := hn.free (o + 1)
      have gl := hn.lt
      have HG := Lib.hid hg
      have HN := Lib.hid hn
      clear hg hn hit hpos0
      go_wp2_with fail
      go_end0
      exact ⟨rfl, grown_set HG.out _ _, HN.out.set _ _⟩
end Go.Proofs.YtdoakedpkjlipaaFmt
