/- The law's walk: the count agrees with the substitution. -/
import Derived.Test.YtdoakedpkjlipaaFmtK5
import Derived.Test.YtdoakedpkjlipaaFmtN1
namespace Go.Proofs.YtdoakedpkjlipaaFmt
open Go.RowKit
set_option linter.unusedVariables false
theorem not_of' {b : Bool} (h : (!b) = false) : b = true := by cases b <;> simp_all
set_option maxRecDepth 100000 in
set_option maxHeartbeats 1000000 in
theorem law29_wf (F : Stop.Interp) (pub : ByteArray) (rela : Option Addr) (reln relc : Nat) (relS : Nat → ByteArray) (data : Option Addr) (datn datc : Nat) (datA : Nat → Option Addr) (datN datC : Nat → Nat) (datD : Nat → Nat → UInt8) (idxa : Option Addr) (idxn idxc : Nat) (idxZ : Nat → Int) (kdsa : Option Addr) (kdsn kdsc : Nat) (kdsZ : Nat → Int) (dir : ByteArray) (w : World)
    (hF : F.told.answers w.tape) (hT : Lib.Utf8Tabs 0 1 w) (hw2 : 2 ≤ w.heap.size)
    (hpub : pub.size ≤ maxLen) (hrel : reln ≤ maxLen) (hrel2 : RowAt w rela reln (strAt relS)) (hdat : datn ≤ maxLen) (hdat2 : RowAt w data datn (slcAt datA datN datC)) (hdat3 : ∀ i, i < datn → RowAt w (datA i) (datN i) (byteAt (datD i)))
    (hidx : idxn ≤ maxLen) (hidx2 : RowAt w idxa idxn (intAt .u32 idxZ)) (hidx3 : ∀ i, i < idxn → 0 ≤ idxZ i ∧ idxZ i < 4294967296) (hkds : kdsn ≤ maxLen) (hkds2 : RowAt w kdsa kdsn (intAt .u8 kdsZ)) (hkds3 : ∀ i, i < kdsn → 0 ≤ kdsZ i ∧ kdsZ i < 256) (hdir : dir.size ≤ maxLen) :
    Calls Tryf.prog 3 #[.string pub, .slice rela reln relc, .slice data datn datc, .slice idxa idxn idxc, .slice kdsa kdsn kdsc, .string dir] w (LawOk w) := by
  have HZ := Lib.hid (zz_FnAccurateFinalByteCountMatchesSubstitution pub rela reln relc relS data datn datc datA datN datC idxa idxn idxc idxZ kdsa kdsn kdsc kdsZ dir w hpub hrel hrel2 hdat hdat2 hidx hkds hdir)
  have HR := Lib.hid (And.intro hrel2 (And.intro hdat2 (And.intro hdat3 (And.intro hidx2 hkds2))))
  have HIB := Lib.hid (And.intro hidx3 hkds3)
  have HF := Lib.hid (And.intro hF (And.intro hT hw2))
  clear hF hT hw2 hpub hrel hrel2 hdat hdat2 hdat3 hidx hidx2 hidx3 hkds hkds2 hkds3 hdir
  go_enter Tryf.func3, Tryf.ntmps3
  go_wp2_with (first
    | (go_at_call 4; refine HZ.out.mono ?_; rintro e wz ⟨b, rfl, hb, rfl⟩; have HB1 := Lib.hid hb; clear hb)
    | (go_at_call 5; have hbt := not_of' ‹(!b) = false›; obtain ⟨hp1, hr1, hr2, hd1, hd2, hi1, hk1, hdir1⟩ := HB1.out hbt; refine (size_any pub rela reln relc relS data datn datc datA datN datC idxa idxn idxc kdsa kdsn kdsc dir w (by omega) (by omega) HR.out.1 HR.out.2.1).mono ?_; rintro e wy ⟨m, rfl, rfl⟩; have HBD := Lib.hid (And.intro hr2 hd2); clear hr2 hd2)
    | (go_at_call 6; refine (premise_any pub rela reln relc relS data datn datc datA datN datC idxa idxn idxc idxZ kdsa kdsn kdsc kdsZ _ hp1 (by omega) (by omega) HR.out.1 HR.out.2.1 HR.out.2.2.2.1 HR.out.2.2.2.2 HBD.out.1 HBD.out.2 HIB.out.1 HIB.out.2).mono ?_; rintro e w1 ⟨b2, rfl, hb2, hbw⟩; have HPR := Lib.hid hb2; have HW1 := Lib.hid hbw; clear hb2 hbw)
    | (go_at_call 7; refine (clone_strs rela reln relc relS w1 hr1 (HR.out.1.below HW1.out)).mono ?_; rintro e w2 ⟨ra, rc, rfl, hrc, hrr, hbw⟩; have HW2 := Lib.hid (And.intro hrr (HW1.out.trans (hbw.mono HW1.out.size))); clear hrr hbw)
    | (go_at_call 8; refine (clone_rows data datn datc datA datN datC datD w2 hd1 (HR.out.2.1.below HW2.out.2) HBD.out.2 (fun i hi => (HR.out.2.2.1 i hi).below HW2.out.2)).mono ?_; rintro e w3 ⟨da, dc, dA, dC, rfl, hdr, hdb, hbw⟩; have HW3 := Lib.hid (And.intro hdr (And.intro hdb (And.intro (HW2.out.1.below hbw) (HW2.out.2.trans (hbw.mono HW2.out.2.size))))); clear hdr hdb hbw)
    | (go_at_call 9; refine (clone_u32 idxa idxn idxc idxZ w3 hi1 (HR.out.2.2.2.1.below HW3.out.2.2.2)).mono ?_; rintro e w4 ⟨ia, ic, rfl, hic, hir, hbw⟩; have HW4 := Lib.hid (And.intro hir (And.intro hbw (HW3.out.2.2.2.trans (hbw.mono HW3.out.2.2.2.size)))); clear hir hbw)
    | (go_at_call 10; refine (clone_u8 kdsa kdsn kdsc kdsZ w4 hk1 (HR.out.2.2.2.2.below HW4.out.2.2)).mono ?_; rintro e w5 ⟨ka, kc, rfl, hkc, hkr, hbw⟩; have HW5 := Lib.hid (And.intro hkr (And.intro hbw (HW4.out.2.2.trans (hbw.mono HW4.out.2.2.size)))); clear hkr hbw)
    | fail)
  all_goals first
    | (go_ret; first | exact ⟨rfl, Below.refl _ _⟩ | exact ⟨rfl, HW1.out⟩)
    | skip
  have hb2t := not_of' ‹(!b2) = false›
  subst hb2t
  have hP := HPR.out rfl
  have him := hP.im
  have hkm := hP.km
  have w5rel := HW3.out.2.2.1.below (HW4.out.2.1.trans (HW5.out.2.1.mono HW4.out.2.1.size))
  have w5dat := HW3.out.1.below (HW4.out.2.1.trans (HW5.out.2.1.mono HW4.out.2.1.size))
  have w5byt := fun i hi => ((HW3.out.2.1 i hi).2.2.1).below (HW4.out.2.1.trans (HW5.out.2.1.mono HW4.out.2.1.size))
  have w5idx := HW4.out.1.below HW5.out.2.1
  have H5 := Lib.hid (And.intro w5rel (And.intro w5dat (And.intro w5byt (And.intro w5idx (And.intro HW5.out.1 HW5.out.2.2)))))
  have HP := Lib.hid hP
  have HIM := Lib.hid (And.intro him hkm)
  clear w5rel w5dat w5byt w5idx hP him hkm
  have hn4 : datn ≤ 4096 := by omega
  have hr4 : reln ≤ 4096 := by omega
  have hol := out_le_all datn dA datN dC datD idxZ kdsZ pub relS (fun i hi => (HIB.out.2 i (by have := HIM.out.2; omega)).1)
  have hle := HP.out.le
  have hrD : RowAt w5 da datn (dRow (psOf datn dA datN dC datD idxZ kdsZ)) := rowAt_congr H5.out.2.1 (fun i hi => psOf_d datn dA datN dC datD idxZ kdsZ i hi)
  have hii : ∀ i, i < datn → 0 ≤ idxZ i ∧ idxZ i < 4294967296 := fun i hi => HIB.out.1 i (by have := HIM.out.1; omega)
  have hkk : ∀ i, i < datn → 0 ≤ kdsZ i ∧ kdsZ i < 256 := fun i hi => HIB.out.2 i (by have := HIM.out.2; omega)
  have hrI : RowAt w5 ia datn (iRow (psOf datn dA datN dC datD idxZ kdsZ)) := rowAt_congr (by have h := H5.out.2.2.2.1; rw [HIM.out.1] at h; exact h) (fun i hi => psOf_i datn dA datN dC datD idxZ kdsZ i hi (hii i hi).1)
  have hrK : RowAt w5 ka datn (kRow (psOf datn dA datN dC datD idxZ kdsZ)) := rowAt_congr (by have h := H5.out.2.2.2.2.1; rw [HIM.out.2] at h; exact h) (fun i hi => psOf_k datn dA datN dC datD idxZ kdsZ i hi (hkk i hi).1)
  have HPC := Lib.hid (fun (wx : World) pa (hrow : RowAt wx pa (datn * 3) (fun i => (cellsP (psOf datn dA datN dC datD idxZ kdsZ)).getD i undef)) (hbx : Below w5.heap.size w5 wx) => psOf_pieces datn dA datN dC datD idxZ kdsZ (m := reln) hrow HBD.out.2 (fun i hi => ⟨(HW3.out.2.1 i hi).1, (HW3.out.2.1 i hi).2.1, (H5.out.2.2.1 i hi).below hbx⟩) hii hkk HP.out.ok)
  have HWB := Lib.hid H5.out.2.2.2.2.2
  have HRR := Lib.hid H5.out.1
  have HPL := Lib.hid (psOf_len datn dA datN dC datD idxZ kdsZ)
  have HRW := Lib.hid (And.intro hrD (And.intro hrI hrK))
  have HOL := Lib.hid (Nat.le_trans hol hle)
  clear hrD hrI hrK hii hkk hol hle
  generalize psOf datn dA datN dC datD idxZ kdsZ = ps at *
  have hol := HOL.out
  have hb7 := fun (w7 : World) (h : Below w5.heap.size w5 w7) (ob : Obj) => h.alloc h.size ob
  have HB7 := Lib.hid hb7
  clear hb7
  have him := HIM.out.1
  have hkm := HIM.out.2
  subst him
  subst hkm
  go_wp2_with (first
    | (go_at_call 11; refine (newCtx_any pub reln rc ra relS w5 hr4 HRR.out).mono ?_; rintro e w6 ⟨cx, ox, cax, rfl, hctx, hch, hcs, hb6⟩; have H6 := Lib.hid (And.intro hctx (And.intro hch (And.intro hcs hb6))); clear hctx hch hcs hb6)
    | (go_at_call 12; refine (newOut_any _ dc ic kc da ia ka ps w6 hn4 HPL.out (HRW.out.1.below H6.out.2.2.2) (HRW.out.2.1.below H6.out.2.2.2) (HRW.out.2.2.below H6.out.2.2.2)).mono ?_; rintro e w7 ⟨pa, rfl, hpa, hrow, hb7⟩; have H7 := Lib.hid (And.intro hrow hb7); clear hrow hb7)
    | (go_at_call 13; have b7a := (Below.refl w7.heap.size w7).alloc (Nat.le_refl _) (.cells #[.slice pa kdsn kdsn, .slice none 0 0, .slice none 0 0, .int .u32 0, .int .u8 0] 42); have b7b := H7.out.2.trans (b7a.mono H7.out.2.size); have b67 := (H6.out.2.2.2.trans (b7b.mono H6.out.2.2.2.size)); have bw7 := HWB.out.trans (b67.mono HWB.out.size); refine (accB_any F cx ox reln reln _ _ pub dir ps pa cax relS _ (by rw [bw7.tape]; exact HF.out.1) hp1 HP.out.pub0 HBD.out.1 (H6.out.1.below b7b) ((b7b.cell (block_lt_of_cell H6.out.2.1)).trans H6.out.2.1) (H6.out.2.2.1.below b7b) (by omega) (HPC.out _ pa (H7.out.1.below b7a) b67) hpa hn4 HOL.out).mono ?_; rintro e w8 ⟨rfl, hb8⟩; have c70 := cell_of_row _ _ 0 _ _ _ ((hb8.block _ (by simp)).trans (heap_alloc_new w7 (.cells #[.slice pa kdsn kdsn, .slice none 0 0, .slice none 0 0, .int .u32 0, .int .u8 0] 42))); have c71 := cell_of_row _ _ 1 _ _ _ ((hb8.block _ (by simp)).trans (heap_alloc_new w7 (.cells #[.slice pa kdsn kdsn, .slice none 0 0, .slice none 0 0, .int .u32 0, .int .u8 0] 42))); have c72 := cell_of_row _ _ 2 _ _ _ ((hb8.block _ (by simp)).trans (heap_alloc_new w7 (.cells #[.slice pa kdsn kdsn, .slice none 0 0, .slice none 0 0, .int .u32 0, .int .u8 0] 42))); have c73 := cell_of_row _ _ 3 _ _ _ ((hb8.block _ (by simp)).trans (heap_alloc_new w7 (.cells #[.slice pa kdsn kdsn, .slice none 0 0, .slice none 0 0, .int .u32 0, .int .u8 0] 42))); have c74 := cell_of_row _ _ 4 _ _ _ ((hb8.block _ (by simp)).trans (heap_alloc_new w7 (.cells #[.slice pa kdsn kdsn, .slice none 0 0, .slice none 0 0, .int .u32 0, .int .u8 0] 42))); simp only [List.getElem?_toArray, List.getElem?_cons_zero, List.getElem?_cons_succ] at c70 c71 c72 c73 c74; have H8 := Lib.hid (And.intro (b7b.trans (hb8.mono b7b.size)) (And.intro (b67.trans (hb8.mono b67.size)) (And.intro (bw7.trans (hb8.mono bw7.size)) (H7.out.1.below (b7a.trans (hb8.mono b7a.size)))))); clear hb8 b67 bw7 b7a b7b)
    | (go_at_call 14; refine (count_any F cx ox reln reln _ _ pub dir ps pa cax relS w8 (by rw [H8.out.2.2.1.tape]; exact HF.out.1) hp1 HP.out.pub0 HBD.out.1 (H6.out.1.below H8.out.1) ((H8.out.1.cell (block_lt_of_cell H6.out.2.1)).trans H6.out.2.1) (H6.out.2.2.1.below H8.out.1) (by omega) (tabs_below HF.out.2.1 H8.out.2.2.1) (Nat.le_trans HF.out.2.2 H8.out.2.2.1.size) (HPC.out _ pa H8.out.2.2.2 H8.out.2.1) hpa hn4 HOL.out).mono ?_; rintro e w9 ⟨a9, c9, rfl, hr9, hb9⟩; have H9 := Lib.hid (H8.out.2.2.1.trans (hb9.mono H8.out.2.2.1.size)); clear hr9 hb9)
    | fail)
  all_goals first
    | (go_ret; exact ⟨by simp, H9.out⟩)
    | skip
end Go.Proofs.YtdoakedpkjlipaaFmt
