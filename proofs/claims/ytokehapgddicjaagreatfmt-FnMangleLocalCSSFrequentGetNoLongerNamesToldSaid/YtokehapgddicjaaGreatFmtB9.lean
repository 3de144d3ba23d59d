/- Law 35, the walk. -/
import Derived.Test.YtokehapgddicjaaGreatFmtB7
import Derived.Test.YtokehapgddicjaaGreatFmtB1
import Derived.Deep.CutBlock
import Derived.Deep.QuietTactic
import Derived.BigQuiet
namespace Go.Proofs.YtokehapgddicjaaGreatFmt
open Go.RowKit
set_option linter.unusedVariables false
set_option linter.unusedSimpArgs false
theorem below_drewN {B : Nat} {a w : World} (h : Below B a w) (q : Nat) : Below B a (w.drewN q) := ⟨h.os, h.tape, h.output, h.size, h.block⟩
set_option maxRecDepth 100000 in
set_option maxHeartbeats 2000000 in
theorem law35_wf (ident : ByteArray) (na : Option Addr) (nn nc : Nat) (S : Nat → ByteArray) (ga : Option Addr) (gn gc : Nat) (B : Nat → Bool) (ca : Option Addr) (cn cc : Nat) (C : Nat → Int) (ua : Option Addr) (un uc : Nat) (US : Nat → ByteArray) (w : World)
    (hi : ident.size ≤ maxLen) (hn : nn ≤ maxLen) (rN : RowAt w na nn (strAt S)) (_k1 : ∀ i, i < nn → (S i).size ≤ maxLen) (hg : gn ≤ maxLen) (rG : RowAt w ga gn (boolAt B)) (hc : cn ≤ maxLen) (rC : RowAt w ca cn (intAt .u32 C)) (hC : ∀ i, i < cn → (Lit.int .u32 (C i)).wf = true) (hu : un ≤ maxLen) (rU : RowAt w ua un (strAt US)) (_k3 : ∀ i, i < un → (US i).size ≤ maxLen)
    (hv : w.cell? ⟨0, 0, none⟩ = some (.int .u32 4294967295) ∧ w.cell? ⟨0, 1, none⟩ = some (.int .u32 4294967295)) :
    Calls Tryz.prog 3 #[.string ident, .slice na nn nc, .slice ga gn gc, .slice ca cn cc, .slice ua un uc] w (LawOk w) := by
  have H := Lib.hid (And.intro hi (And.intro hn (And.intro hg (And.intro hc hu))))
  have HR := Lib.hid (And.intro rN (And.intro rG (And.intro rC rU)))
  have HV := Lib.hid hv
  have HCW := Lib.hid hC
  clear hi hn rN _k1 hg rG hc rC hC hu rU _k3 hv
  go_enter Tryz.func3, Tryz.ntmps3
  go_wp2_with fail
  refine (zz_FnMangleLocalCSSFrequentGetNoLongerNames ident na nn nc S ga gn gc B ca cn cc C ua un uc US w H.out.1 H.out.2.1 HR.out.1 H.out.2.2.1 H.out.2.2.2.1 H.out.2.2.2.2 HR.out.2.2.2).mono ?_
  rintro e w' ⟨b, rfl, hb, rfl⟩
  cases b with
  | false =>
    go_wp2
    go_ret
    exact ⟨rfl, Below.refl _ _⟩
  | true =>
    have HB := Lib.hid (hb rfl)
    clear hb
    go_wp2_with fail
    refine (cssBytes_any ident na nn nc S ga gn gc ca cn cc ua un uc US w HB.out.1 HB.out.2.1 HB.out.2.2.2.1 HB.out.2.2.2.2.1 HB.out.2.2.2.2.2.1 HR.out.1 HB.out.2.2.1 HR.out.2.2.2 HB.out.2.2.2.2.2.2).mono ?_
    rintro e w' ⟨v, rfl, hw⟩
    obtain rfl := hw.symm
    clear hw
    by_cases hv : (1048576 : Int) < v
    · go_wp2_with fail
      go_ret
      exact ⟨rfl, Below.refl _ _⟩
    · go_wp2_with fail
      refine (cssFits_any na nn nc ga gn gc ca cn cc ua un uc w HB.out.2.1 HB.out.2.2.2.1 HB.out.2.2.2.2.1 HB.out.2.2.2.2.2.1).mono ?_
      rintro e w' ⟨b, rfl, hb, rfl⟩
      cases b with
      | false =>
        go_wp2
        go_ret
        exact ⟨rfl, Below.refl _ _⟩
      | true =>
        obtain ⟨h1, rfl, rfl, h4⟩ := hb rfl
        have HS : Hid (∀ i, i < cn → (S i).size ≤ 1048576) := fun i hi => HB.out.2.2.1 i hi
        have HU : Hid (∀ i, i < un → (US i).size ≤ 1048576) := fun i hi => HB.out.2.2.2.2.2.2 i hi
        clear hb hv
        go_wp2_with fail
        refine (clone_strs na cn nc S w (by omega) HR.out.1).mono ?_
        rintro e w1 ⟨a1, c1, rfl, hc1, hr1, hb1⟩
        have H1 := Lib.hid (And.intro hr1 hb1)
        clear hr1 hb1 hc1
        go_wp2_with fail
        refine (clone_bools ga cn gc B w1 (by omega) (HR.out.2.1.below H1.out.2)).mono ?_
        rintro e w2 ⟨a2, c2, rfl, hc2, hr2, hb2⟩
        have H2 := Lib.hid (And.intro (H1.out.1.below hb2) (And.intro hr2 (H1.out.2.trans (hb2.mono H1.out.2.size))))
        clear hr2 hb2 hc2
        go_wp2_with fail
        refine (clone_u32 ca cn cc C w2 (by omega) (HR.out.2.2.1.below H2.out.2.2)).mono ?_
        rintro e w3 ⟨a3, c3, rfl, hc3, hr3, hb3⟩
        have H3 := Lib.hid (And.intro (H2.out.1.below hb3) (And.intro (H2.out.2.1.below hb3) (And.intro hr3 (H2.out.2.2.trans (hb3.mono H2.out.2.2.size)))))
        clear hr3 hb3 hc3
        go_wp2_with fail
        refine (clone_strs ua un uc US w3 (by omega) (HR.out.2.2.2.below H3.out.2.2.2)).mono ?_
        rintro e w4 ⟨a4, c4, rfl, hc4, hr4, hb4⟩
        have H4 := Lib.hid (And.intro (H3.out.1.below hb4) (And.intro (H3.out.2.1.below hb4) (And.intro (H3.out.2.2.1.below hb4) (And.intro hr4 (H3.out.2.2.2.trans (hb4.mono H3.out.2.2.2.size))))))
        clear hr4 hb4 hc4 H1 H2 H3
        go_wp2_with fail
        refine (harness_any ident a1 cn c1 S a2 c2 B a3 c3 C a4 un c4 US w4 h1 h4 HS.out HU.out H4.out.1 H4.out.2.1 H4.out.2.2.1 H4.out.2.2.2.1 ((H4.out.2.2.2.2.cell (block_lt_of_cell HV.out.1)).trans HV.out.1) ((H4.out.2.2.2.2.cell (block_lt_of_cell HV.out.2)).trans HV.out.2)).mono ?_
        rintro e w5 ⟨f0, J, oa, ha, hJ, rfl, hro, hrh, hb5⟩
        have H5 := Lib.hid (And.intro (H4.out.1.below hb5) (And.intro (H4.out.2.1.below hb5) (And.intro (H4.out.2.2.1.below hb5) (And.intro (H4.out.2.2.2.1.below hb5) (And.intro hro (And.intro hrh (H4.out.2.2.2.2.trans (hb5.mono H4.out.2.2.2.2.size))))))))
        have HJ := Lib.hid hJ
        clear hJ hro hrh hb5 H4
        go_upto_block 0 with fail
        go_wp2_with fail
        go_loopw [13] (fun iv wr => ∃ k : Nat, k ≤ cn ∧ iv = .int .i64 k ∧ Hid (Below w5.heap.size w5 wr)) (fun iv _ => cn - (intOf iv).toNat)
        case atStart => exact ⟨0, Nat.zero_le _, rfl, Below.refl _ _⟩
        case round =>
          obtain ⟨k, hk, rfl, HK⟩ := hrel
          by_cases hlt : k < cn
          · obtain ⟨gb, go, rfl, gl, g2⟩ := H5.out.2.1.blk (by omega)
            obtain ⟨hb', ho, hhe, hl, h2⟩ := H5.out.2.2.2.2.2.1.blk (by omega)
            cases hhe
            have x1 := (HK.out.cell (p := ⟨gb, go + k, none⟩) gl).trans (g2 k hlt)
            have x3 := (HK.out.cell (p := ⟨ha, 0 + k, none⟩) hl).trans (h2 k hlt)
            rw [Nat.zero_add] at x3
            have HG2 := Lib.hid g2
            clear h2 g2
            have b0 : (0 : Int) ≤ (k : Int) := by omega
            have b1 : (k : Int) < (cn : Int) := by omega
            cases hB : B k with
            | true =>
              rw [boolAt, hB] at x1
              clear hB
              go_wp2_with fail
              exact ⟨⟨k + 1, by omega, by go_num, HK.out⟩, by simp [intOf]; omega⟩
            | false =>
              rw [boolAt, hB] at x1
              rw [boolAt, hasB, hB] at x3
              simp only [Bool.not_false] at x3
              have HBK := Lib.hid hB
              clear hB
              go_wp2_with fail
              go_loopw [14] (fun iv wj => ∃ j : Nat, j ≤ cn ∧ iv = .int .i64 j ∧ Hid (Below w5.heap.size w5 wj)) (fun iv _ => cn - (intOf iv).toNat)
              case atStart => exact ⟨0, Nat.zero_le _, rfl, HK.out⟩
              case round =>
                obtain ⟨j, hj, rfl, HKJ⟩ := hrel
                by_cases hlj : j < cn
                · obtain ⟨cb, co, rfl, cl, c2⟩ := H5.out.2.2.1.blk (by omega)
                  obtain ⟨ob, oo, hoe, ol, o2⟩ := H5.out.2.2.2.2.1.blk (by omega)
                  cases hoe
                  clear x1 x3
                  have x1 := (HKJ.out.cell (p := ⟨gb, go + j, none⟩) gl).trans (HG2.out j hlj)
                  have y1 := (HKJ.out.cell (p := ⟨cb, co + k, none⟩) cl).trans (c2 k hlt)
                  have y2 := (HKJ.out.cell (p := ⟨cb, co + j, none⟩) cl).trans (c2 j hlj)
                  have z1 := (HKJ.out.cell (p := ⟨oa, 0 + k, none⟩) ol).trans (o2 k hlt)
                  have z2 := (HKJ.out.cell (p := ⟨oa, 0 + j, none⟩) ol).trans (o2 j hlj)
                  rw [Nat.zero_add] at z1 z2
                  have d0 : (0 : Int) ≤ (j : Int) := by omega
                  have d1 : (j : Int) < (cn : Int) := by omega
                  rw [strAt, outS, HBK.out] at z1
                  simp only [Bool.false_eq_true, if_false] at z1
                  clear c2 o2
                  cases hBj : B j with
                  | true =>
                    rw [boolAt, hBj] at x1
                    clear hBj z1 z2 y1 y2
                    go_wp2_with fail
                    go_quiet (fail)
                    go_wp2_with fail
                    exact ⟨⟨j + 1, by omega, by go_num, below_drewN HKJ.out _⟩, by simp [intOf]; omega⟩
                  | false =>
                    rw [boolAt, hBj] at x1
                    rw [strAt, outS, hBj] at z2
                    simp only [Bool.false_eq_true, if_false] at z2
                    have ho := HJ.out.order k j hlt hlj HBK.out hBj
                    clear hBj
                    generalize hnk : nm (J k) = tk at *
                    generalize hnj : nm (J j) = tj at *
                    simp only [intAt] at y1 y2
                    generalize hck : C k = zk at *
                    generalize hcj : C j = zj at *
                    have HQ := Lib.hid (And.intro hnk (And.intro hnj (And.intro hck hcj)))
                    clear hnk hnj hck hcj
                    by_cases hgt : zk > zj
                    · have hle : (tk.size : Int) ≤ (tj.size : Int) := by have := ho hgt; omega
                      have hgt' : zj < zk := hgt
                      clear ho
                      have hd : decide ((tj.size : Int) < (tk.size : Int)) = false := decide_eq_false (by omega)
                      go_wp2_with fail
                      go_quiet (fail)
                      go_wp2_with fail
                      exact ⟨⟨j + 1, by omega, by go_num, below_drewN HKJ.out _⟩, by simp [intOf]; omega⟩
                    · have hle : zk ≤ zj := by omega
                      have hd : decide (zj < zk) = false := decide_eq_false (by omega)
                      clear ho
                      go_wp2_with fail
                      go_quiet (fail)
                      go_wp2_with fail
                      exact ⟨⟨j + 1, by omega, by go_num, below_drewN HKJ.out _⟩, by simp [intOf]; omega⟩
                · obtain rfl : j = cn := by omega
                  go_wp2_with fail
                  exact ⟨⟨k + 1, by omega, by go_num, HKJ.out⟩, by simp [intOf]; omega⟩
          · obtain rfl : k = cn := by omega
            go_wp2_with fail
            go_ret
            exact ⟨rfl, H5.out.2.2.2.2.2.2.trans (HK.out.mono H5.out.2.2.2.2.2.2.size)⟩
end Go.Proofs.YtokehapgddicjaaGreatFmt
