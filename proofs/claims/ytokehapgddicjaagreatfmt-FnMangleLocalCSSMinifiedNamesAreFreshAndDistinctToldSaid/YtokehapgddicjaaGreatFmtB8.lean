/- Law 44, the walk. -/
import Derived.Test.YtokehapgddicjaaGreatFmtB7
import Derived.Test.YtokehapgddicjaaGreatFmtB1
import Derived.Deep.CutBlock
import Derived.Deep.QuietTactic
import Derived.BigQuiet
namespace Go.Proofs.YtokehapgddicjaaGreatFmt
open Go.RowKit
set_option linter.unusedVariables false
set_option linter.unusedSimpArgs false
theorem loop_some (bs : ByteArray) : ∀ (n i : Nat) (r : List UInt8), bs.size - i ≤ n → (r ≠ [] ∨ i < bs.size) → ByteArray.toList.loop bs i r ≠ [] := by
  intro n
  induction n with
  | zero =>
    intro i r hn h
    rw [ByteArray.toList.loop]
    rw [if_neg (by omega)]
    rcases h with h | h
    · simpa using h
    · omega
  | succ n ih =>
    intro i r hn h
    rw [ByteArray.toList.loop]
    by_cases hi : i < bs.size
    · rw [if_pos hi]
      exact ih _ _ (by omega) (Or.inl (by simp))
    · rw [if_neg hi]
      rcases h with h | h
      · simpa using h
      · omega
theorem nm_ne (j : Nat) : (nm j).toList.isEmpty = false := by
  have h := loop_some (nm j) _ 0 [] (Nat.le_refl _) (Or.inr (nm_pos j))
  cases hl : (nm j).toList with
  | nil => exact absurd hl h
  | cons x l => rfl
set_option maxRecDepth 100000 in
set_option maxHeartbeats 2000000 in
theorem law44_wf (ident : ByteArray) (na : Option Addr) (nn nc : Nat) (S : Nat → ByteArray) (ga : Option Addr) (gn gc : Nat) (B : Nat → Bool) (ca : Option Addr) (cn cc : Nat) (C : Nat → Int) (ua : Option Addr) (un uc : Nat) (US : Nat → ByteArray) (w : World)
    (hi : ident.size ≤ maxLen) (hn : nn ≤ maxLen) (rN : RowAt w na nn (strAt S)) (_k1 : ∀ i, i < nn → (S i).size ≤ maxLen) (hg : gn ≤ maxLen) (rG : RowAt w ga gn (boolAt B)) (hc : cn ≤ maxLen) (rC : RowAt w ca cn (intAt .u32 C)) (hC : ∀ i, i < cn → (Lit.int .u32 (C i)).wf = true) (hu : un ≤ maxLen) (rU : RowAt w ua un (strAt US)) (_k3 : ∀ i, i < un → (US i).size ≤ maxLen)
    (hv : w.cell? ⟨0, 0, none⟩ = some (.int .u32 4294967295) ∧ w.cell? ⟨0, 1, none⟩ = some (.int .u32 4294967295)) :
    Calls Tryz.prog 4 #[.string ident, .slice na nn nc, .slice ga gn gc, .slice ca cn cc, .slice ua un uc] w (LawOk w) := by
  have H := Lib.hid (And.intro hi (And.intro hn (And.intro hg (And.intro hc hu))))
  have HR := Lib.hid (And.intro rN (And.intro rG (And.intro rC rU)))
  have HV := Lib.hid hv
  have HCW := Lib.hid hC
  clear hi hn rN _k1 hg rG hc rC hC hu rU _k3 hv
  go_enter Tryz.func4, Tryz.ntmps4
  go_wp2_with fail
  refine (zz_FnMangleLocalCSSMinifiedNamesAreFreshAndDistinct ident na nn nc S ga gn gc B ca cn cc C ua un uc US w H.out.1 H.out.2.1 HR.out.1 H.out.2.2.1 H.out.2.2.2.1 H.out.2.2.2.2 HR.out.2.2.2).mono ?_
  rintro e w' ⟨b, rfl, hb, rfl⟩
  cases b with
  | false =>
    go_wp2
    go_ret
    exact ⟨rfl, Below.refl _ _⟩
  | true =>
    have HB := Lib.hid (hb rfl)
    clear hb
    go_wp2_with fail
    refine (cssBytes_any ident na nn nc S ga gn gc ca cn cc ua un uc US w HB.out.1 HB.out.2.1 HB.out.2.2.2.1 HB.out.2.2.2.2.1 HB.out.2.2.2.2.2.1 HR.out.1 HB.out.2.2.1 HR.out.2.2.2 HB.out.2.2.2.2.2.2).mono ?_
    rintro e w' ⟨v, rfl, hw⟩
    obtain rfl := hw.symm
    clear hw
    by_cases hv : (1048576 : Int) < v
    · go_wp2_with fail
      go_ret
      exact ⟨rfl, Below.refl _ _⟩
    · go_wp2_with fail
      refine (cssFits_any na nn nc ga gn gc ca cn cc ua un uc w HB.out.2.1 HB.out.2.2.2.1 HB.out.2.2.2.2.1 HB.out.2.2.2.2.2.1).mono ?_
      rintro e w' ⟨b, rfl, hb, rfl⟩
      cases b with
      | false =>
        go_wp2
        go_ret
        exact ⟨rfl, Below.refl _ _⟩
      | true =>
        obtain ⟨h1, rfl, rfl, h4⟩ := hb rfl
        have HS : Hid (∀ i, i < cn → (S i).size ≤ 1048576) := fun i hi => HB.out.2.2.1 i hi
        have HU : Hid (∀ i, i < un → (US i).size ≤ 1048576) := fun i hi => HB.out.2.2.2.2.2.2 i hi
        clear hb hv
        go_wp2_with fail
        refine (clone_strs na cn nc S w (by omega) HR.out.1).mono ?_
        rintro e w1 ⟨a1, c1, rfl, hc1, hr1, hb1⟩
        have H1 := Lib.hid (And.intro hr1 hb1)
        clear hr1 hb1 hc1
        go_wp2_with fail
        refine (clone_bools ga cn gc B w1 (by omega) (HR.out.2.1.below H1.out.2)).mono ?_
        rintro e w2 ⟨a2, c2, rfl, hc2, hr2, hb2⟩
        have H2 := Lib.hid (And.intro (H1.out.1.below hb2) (And.intro hr2 (H1.out.2.trans (hb2.mono H1.out.2.size))))
        clear hr2 hb2 hc2
        go_wp2_with fail
        refine (clone_u32 ca cn cc C w2 (by omega) (HR.out.2.2.1.below H2.out.2.2)).mono ?_
        rintro e w3 ⟨a3, c3, rfl, hc3, hr3, hb3⟩
        have H3 := Lib.hid (And.intro (H2.out.1.below hb3) (And.intro (H2.out.2.1.below hb3) (And.intro hr3 (H2.out.2.2.trans (hb3.mono H2.out.2.2.size)))))
        clear hr3 hb3 hc3
        go_wp2_with fail
        refine (clone_strs ua un uc US w3 (by omega) (HR.out.2.2.2.below H3.out.2.2.2)).mono ?_
        rintro e w4 ⟨a4, c4, rfl, hc4, hr4, hb4⟩
        have H4 := Lib.hid (And.intro (H3.out.1.below hb4) (And.intro (H3.out.2.1.below hb4) (And.intro (H3.out.2.2.1.below hb4) (And.intro hr4 (H3.out.2.2.2.trans (hb4.mono H3.out.2.2.2.size))))))
        clear hr4 hb4 hc4 H1 H2 H3
        go_wp2_with fail
        refine (harness_any ident a1 cn c1 S a2 c2 B a3 c3 C a4 un c4 US w4 h1 h4 HS.out HU.out H4.out.1 H4.out.2.1 H4.out.2.2.1 H4.out.2.2.2.1 ((H4.out.2.2.2.2.cell (block_lt_of_cell HV.out.1)).trans HV.out.1) ((H4.out.2.2.2.2.cell (block_lt_of_cell HV.out.2)).trans HV.out.2)).mono ?_
        rintro e w5 ⟨f0, J, oa, ha, hJ, rfl, hro, hrh, hb5⟩
        have H5 := Lib.hid (And.intro (H4.out.1.below hb5) (And.intro (H4.out.2.1.below hb5) (And.intro (H4.out.2.2.1.below hb5) (And.intro (H4.out.2.2.2.1.below hb5) (And.intro hro (And.intro hrh (H4.out.2.2.2.2.trans (hb5.mono H4.out.2.2.2.2.size))))))))
        have HJ := Lib.hid hJ
        clear hJ hro hrh hb5 H4
        have mk35 := fun (wx : World) => run_make_map wx 35 9 4 Tryz.underlying35
        go_upto_block 0 with fail
        generalize hbm : w5.heap.size = bm at *
        have hm0 : MapIs Tryz.prog 9 (w5.alloc (.map #[] 0)) bm (fun _ => none) := by rw [← hbm]; exact MapIs.made w5
        have hb0 : Below bm w5 (w5.alloc (.map #[] 0)) := by rw [← hbm]; exact (Below.refl _ _).alloc (Nat.le_refl _) _
        have H6 := Lib.hid (And.intro hm0 hb0)
        clear hm0 hb0
        go_cut [] from 15 (fun w' => ∃ f, MapIs Tryz.prog 9 w' bm f ∧ SetIs f ((List.range un).map US) ∧ Below bm w5 w')
        case first =>
          go_wp2_with fail
          go_loopw [14] (fun iv wr => ∃ (k : Nat) (f : Value → Option Value), k ≤ un ∧ iv = .int .i64 k ∧ Hid (MapIs Tryz.prog 9 wr bm f ∧ SetIs f ((List.range k).map US) ∧ Below bm w5 wr)) (fun iv _ => un - (intOf iv).toNat)
          case atStart => exact ⟨0, _, Nat.zero_le _, rfl, H6.out.1, SetIs.nil, H6.out.2⟩
          case round =>
            obtain ⟨k, f, hk, rfl, HK⟩ := hrel
            by_cases hlt : k < un
            · obtain ⟨nb, no, rfl, nl, n2⟩ := H5.out.2.2.2.1.blk (by omega)
              have x1 := (HK.out.2.2.cell (p := ⟨nb, no + k, none⟩) (by rw [← hbm]; exact nl)).trans (n2 k hlt)
              have HZ := Lib.hid (HU.out k hlt)
              clear n2
              go_wp2_with (refine wpList_put_map _ rfl _ _ _ _ rfl 9 4 K9 Tryz.underlying35 bm f rfl HK.out.1 _ _ _ rfl rfl (str_key _ HZ.out) ?_; intro w' hm' hg'; have HQ := Lib.hid (And.intro hm' hg'); clear hm' hg')
              exact ⟨⟨k + 1, _, by omega, by go_num, HQ.out.1, by rw [List.range_succ, List.map_append]; exact (HK.out.2.1.put (US k)).iff (fun s => by simp [or_comm]), HK.out.2.2.grown HQ.out.2 (by have := HK.out.2.2.size; omega) (fun j h => by cases h; exact Nat.le_refl _)⟩, by simp [intOf]; omega⟩
            · obtain rfl : k = un := by omega
              go_wp2_with fail
              go_meet
              case rel => exact ⟨f, HK.out⟩
        case rest =>
          obtain ⟨f, hf1, hf2, hf3⟩ := hcut
          have H7 := Lib.hid (And.intro hf1 (And.intro hf2 hf3))
          clear hf1 hf2 hf3
          go_upto_block 2 with fail
          go_cut [] from 16 (fun w' => ∃ f, MapIs Tryz.prog 9 w' bm f ∧ SetIs f (globs S B cn ++ (List.range un).map US) ∧ Below bm w5 w')
          case first =>
            go_wp2_with fail
            go_loopw [15] (fun iv wr => ∃ (k : Nat) (f : Value → Option Value), k ≤ cn ∧ iv = .int .i64 k ∧ Hid (MapIs Tryz.prog 9 wr bm f ∧ SetIs f (globs S B k ++ (List.range un).map US) ∧ Below bm w5 wr)) (fun iv _ => cn - (intOf iv).toNat)
            case atStart => exact ⟨0, f, Nat.zero_le _, rfl, H7.out⟩
            case round =>
              obtain ⟨k, f, hk, rfl, HK⟩ := hrel
              by_cases hlt : k < cn
              · obtain ⟨gb, go, rfl, gl, g2⟩ := H5.out.2.1.blk (by omega)
                obtain ⟨nb, no, rfl, nl, n2⟩ := H5.out.1.blk (by omega)
                have x1 := (HK.out.2.2.cell (p := ⟨gb, go + k, none⟩) (by rw [← hbm]; exact gl)).trans (g2 k hlt)
                have x2 := (HK.out.2.2.cell (p := ⟨nb, no + k, none⟩) (by rw [← hbm]; exact nl)).trans (n2 k hlt)
                have HZ := Lib.hid (HS.out k hlt)
                clear n2 g2
                cases hB : B k with
                | true =>
                  rw [boolAt, hB] at x1
                  have HG := Lib.hid (globs_yes (S := S) hB)
                  clear hB
                  go_wp2_with (refine wpList_put_map _ rfl _ _ _ _ rfl 9 4 K9 Tryz.underlying35 bm f rfl HK.out.1 _ _ _ rfl rfl (str_key _ HZ.out) ?_; intro w' hm' hg'; have HQ := Lib.hid (And.intro hm' hg'); clear hm' hg')
                  exact ⟨⟨k + 1, _, by omega, by go_num, HQ.out.1, by rw [HG.out]; exact (HK.out.2.1.put (S k)).iff (fun s => by simp [or_comm, or_assoc, or_left_comm]), HK.out.2.2.grown HQ.out.2 (by have := HK.out.2.2.size; omega) (fun j h => by cases h; exact Nat.le_refl _)⟩, by simp [intOf]; omega⟩
                | false =>
                  rw [boolAt, hB] at x1
                  have HG := Lib.hid (globs_no (S := S) hB)
                  clear hB
                  go_wp2_with fail
                  exact ⟨⟨k + 1, f, by omega, by go_num, HK.out.1, by rw [HG.out]; exact HK.out.2.1, HK.out.2.2⟩, by simp [intOf]; omega⟩
              · obtain rfl : k = cn := by omega
                go_wp2_with fail
                go_meet
                case rel => exact ⟨f, HK.out⟩
          case rest =>
            obtain ⟨f, hf1, hf2, hf3⟩ := hcut
            have H8 := Lib.hid (And.intro hf1 (And.intro hf2 hf3))
            have hbl := hf1.lt
            clear hf1 hf2 hf3
            go_upto_block 4 with fail
            generalize hbs : wc.heap.size = bs at *
            have hm0 : MapIs Tryz.prog 9 (wc.alloc (.map #[] 0)) bs (fun _ => none) := by rw [← hbs]; exact MapIs.made wc
            have hb0 : Below bs wc (wc.alloc (.map #[] 0)) := by rw [← hbs]; exact (Below.refl _ _).alloc (Nat.le_refl _) _
            have H9 := Lib.hid (And.intro hm0 hb0)
            clear hm0 hb0 mk35
            go_wp2_with fail
            go_loopw [17] (fun iv wr => ∃ (k : Nat) (h : Value → Option Value), k ≤ cn ∧ iv = .int .i64 k ∧ Hid (MapIs Tryz.prog 9 wr bs h ∧ SetIs h ((locs B k).map (fun i => nm (J i))) ∧ Below bs wc wr)) (fun iv _ => cn - (intOf iv).toNat)
            case atStart => exact ⟨0, _, Nat.zero_le _, rfl, H9.out.1, SetIs.nil, H9.out.2⟩
            case round =>
              obtain ⟨k, h, hk, rfl, HK⟩ := hrel
              by_cases hlt : k < cn
              · obtain ⟨gb, go, rfl, gl, g2⟩ := H5.out.2.1.blk (by omega)
                obtain ⟨ob, oo, hoe, ol, o2⟩ := H5.out.2.2.2.2.1.blk (by omega)
                obtain ⟨hb', ho, hhe, hl, h2⟩ := H5.out.2.2.2.2.2.1.blk (by omega)
                cases hoe
                cases hhe
                have b5r : Below bm w5 wr := H8.out.2.2.trans (HK.out.2.2.mono (by omega))
                have x1 := (b5r.cell (p := ⟨gb, go + k, none⟩) (by rw [← hbm]; exact gl)).trans (g2 k hlt)
                have x2 := (b5r.cell (p := ⟨oa, 0 + k, none⟩) (by rw [← hbm]; exact ol)).trans (o2 k hlt)
                have x3 := (b5r.cell (p := ⟨ha, 0 + k, none⟩) (by rw [← hbm]; exact hl)).trans (h2 k hlt)
                rw [Nat.zero_add] at x2 x3
                have HB5 := Lib.hid b5r
                clear o2 h2 g2 b5r
                have b0 : (0 : Int) ≤ (k : Int) := by omega
                have b1 : (k : Int) < (cn : Int) := by omega
                cases hB : B k with
                | true =>
                  rw [boolAt, hB] at x1
                  rw [boolAt, hasB, hB] at x3
                  have HG := Lib.hid (locs_yes hB)
                  clear hB
                  go_wp2_with fail
                  exact ⟨⟨k + 1, h, by omega, by go_num, HK.out.1, by rw [HG.out]; exact HK.out.2.1, HK.out.2.2⟩, by simp [intOf]; omega⟩
                | false =>
                  rw [boolAt, hB] at x1
                  rw [boolAt, hasB, hB] at x3
                  rw [strAt, outS, hB] at x2
                  simp only [Bool.false_eq_true, if_false, Bool.not_false] at x1 x2 x3
                  have hsz : (nm (J k)).size ≤ 1048576 := (HJ.out.short k hlt hB)
                  have hfr := HJ.out.fresh k hlt hB
                  have e1 := set_no (H8.out.1.below (by rw [hbs]; exact HK.out.2.2)) H8.out.2.1 hsz (fun hm => by rcases List.mem_append.1 hm with hm | hm; exact hfr.1 hm; exact hfr.2 hm)
                  have e2 := set_no HK.out.1 HK.out.2.1 hsz (fun hm => by
                    obtain ⟨i, hi1, hi2⟩ := List.mem_map.1 hm
                    have hik := locs_lt hi1
                    have hbi : B i = false := by have := (List.mem_filter.1 hi1).2; simpa using this
                    exact HJ.out.apart i k (by omega) hlt hbi hB (by omega) hi2)
                  have HG := Lib.hid (locs_no hB)
                  have HZ := Lib.hid hsz
                  have hne1 : (nm (J k)).toList.isEmpty = false := nm_ne (J k)
                  have hne2 : ¬ (nm (J k)).toList = [] := fun e => by rw [e] at hne1; cases hne1
                  generalize hnm : nm (J k) = t at *
                  have HNM := Lib.hid hnm
                  clear hB hfr hsz hnm
                  go_wp2_with (refine wpList_put_map _ rfl _ _ _ _ rfl 9 4 K9 Tryz.underlying35 bs h rfl HK.out.1 _ _ _ rfl rfl (str_key _ HZ.out) ?_; intro w' hm' hg'; have HQ := Lib.hid (And.intro hm' hg'); clear hm' hg')
                  exact ⟨⟨k + 1, _, by omega, by go_num, HQ.out.1, by rw [HG.out, List.map_append, List.map_cons, List.map_nil, HNM.out]; exact (HK.out.2.1.put t).iff (fun s => by simp [or_comm]), HK.out.2.2.grown HQ.out.2 (by have := HK.out.2.2.size; omega) (fun j h => by cases h; exact Nat.le_refl _)⟩, by simp [intOf]; omega⟩
              · obtain rfl : k = cn := by omega
                go_wp2_with fail
                go_ret
                exact ⟨rfl, H5.out.2.2.2.2.2.2.trans ((H8.out.2.2.trans (HK.out.2.2.mono (by omega))).mono (by rw [← hbm]; exact H5.out.2.2.2.2.2.2.size))⟩
end Go.Proofs.YtokehapgddicjaaGreatFmt
