/- The law's walk. -/
import Derived.Test.YtdoakedpkjlipaaGreatFmtK5
import Derived.Laws.AppendOwnNone
import Derived.Lib.AppendStr
namespace Go.Proofs.YtdoakedpkjlipaaGreatFmt
open Go.RowKit
set_option linter.unusedVariables false
theorem unf_mono (P : Nat) (relS : Nat → ByteArray) (N : Nat → Nat) (idxZ kdsZ : Nat → Int) (k : Nat) : ∀ d, unf P relS N idxZ kdsZ k ≤ unf P relS N idxZ kdsZ (k + d)
  | 0 => Nat.le_refl _
  | d + 1 => by
    have ih := unf_mono P relS N idxZ kdsZ k d
    rw [← Nat.add_assoc]
    show _ ≤ unf P relS N idxZ kdsZ (k + d) + N (k + d) + _
    omega
theorem want_at (l : List UInt8) (i : Nat) (hi : i < l.length) : (l.map bv).getD i undef = byteAt (fun i => l.getD (0 + i) 0) i := by
  show (l.map bv).getD i undef = bv (l.getD (0 + i) 0)
  rw [Nat.zero_add, List.getD_eq_getElem?_getD, List.getElem?_map, List.getElem?_eq_getElem hi, List.getD_eq_getElem?_getD, List.getElem?_eq_getElem hi]
  rfl
theorem own_conv {w : World} {base n n' : Nat} {v : Value} {xs xs' : List Value} (h : w.ownsRow base 5 1 v n xs) (hn : n = n') (hx : xs = xs') : w.ownsRow base 5 1 v n' xs' := by
  subst hn
  subst hx
  exact h
theorem want_join (ok : List UInt8) (p : PD) (s : ByteArray) (l : List Value) (hl : l = (List.range p.n).map (byteAt p.d)) : ok.map bv ++ l ++ Lib.strCells s = (ok ++ (p.bytes ++ s.data.toList)).map bv := by
  subst hl
  rw [List.map_append, List.map_append, PD.bytes, List.map_map, List.append_assoc]
  rfl
theorem want_join0 (ok : List UInt8) (p : PD) (l : List Value) (hl : l = (List.range p.n).map (byteAt p.d)) : ok.map bv ++ l = (ok ++ (p.bytes ++ [])).map bv := by
  subst hl
  rw [List.map_append, List.append_nil, PD.bytes, List.map_map]
  rfl
theorem want_len2 (ok : List UInt8) (p : PD) (s : ByteArray) : ok.length + p.n + s.size = (ok ++ (p.bytes ++ s.data.toList)).length := by
  rw [List.length_append, List.length_append, bytes_len, size_list, Nat.add_assoc]
theorem want_len0 (ok : List UInt8) (p : PD) : ok.length + p.n = (ok ++ (p.bytes ++ [])).length := by
  rw [List.append_nil, List.length_append, bytes_len]
theorem not_of' {b : Bool} (h : (!b) = false) : b = true := by cases b <;> simp_all
set_option maxRecDepth 100000 in
set_option maxHeartbeats 1000000 in
theorem law33_wf (F : Stop.Interp) (pub : ByteArray) (rela : Option Addr) (reln relc : Nat) (relS : Nat → ByteArray) (data : Option Addr) (datn datc : Nat) (datA : Nat → Option Addr) (datN datC : Nat → Nat) (datD : Nat → Nat → UInt8) (idxa : Option Addr) (idxn idxc : Nat) (idxZ : Nat → Int) (kdsa : Option Addr) (kdsn kdsc : Nat) (kdsZ : Nat → Int) (dir : ByteArray) (w : World)
    (hF : F.told.answers w.tape) (hT : Lib.Utf8Tabs 0 1 w) (hw2 : 2 ≤ w.heap.size)
    (hpub : pub.size ≤ maxLen) (hrel : reln ≤ maxLen) (hrel2 : RowAt w rela reln (strAt relS)) (hdat : datn ≤ maxLen) (hdat2 : RowAt w data datn (slcAt datA datN datC)) (hdat3 : ∀ i, i < datn → RowAt w (datA i) (datN i) (byteAt (datD i)))
    (hidx : idxn ≤ maxLen) (hidx2 : RowAt w idxa idxn (intAt .u32 idxZ)) (hidx3 : ∀ i, i < idxn → 0 ≤ idxZ i ∧ idxZ i < 4294967296) (hkds : kdsn ≤ maxLen) (hkds2 : RowAt w kdsa kdsn (intAt .u8 kdsZ)) (hkds3 : ∀ i, i < kdsn → 0 ≤ kdsZ i ∧ kdsZ i < 256) (hdir : dir.size ≤ maxLen) :
    Calls Tryz.prog 3 #[.string pub, .slice rela reln relc, .slice data datn datc, .slice idxa idxn idxc, .slice kdsa kdsn kdsc, .string dir] w (LawOk w) := by
  have HZ := Lib.hid (zz_FnSubstituteFinalPathsExact pub rela reln relc relS data datn datc datA datN datC idxa idxn idxc idxZ kdsa kdsn kdsc kdsZ dir w hpub hrel hrel2 hdat hdat2 hidx hkds hdir)
  have HR := Lib.hid (And.intro hrel2 (And.intro hdat2 (And.intro hdat3 (And.intro hidx2 hkds2))))
  have HIB := Lib.hid (And.intro hidx3 hkds3)
  have HF := Lib.hid (And.intro hF (And.intro hT hw2))
  clear hF hT hw2 hpub hrel hrel2 hdat hdat2 hdat3 hidx hidx2 hidx3 hkds hkds2 hkds3 hdir
  go_enter Tryz.func3, Tryz.ntmps3
  go_wp2_with (first
    | (go_at_call 4; refine HZ.out.mono ?_; rintro e wz ⟨b, rfl, hb, rfl⟩; have HB1 := Lib.hid hb; clear hb)
    | (go_at_call 5; have hbt := not_of' ‹(!b) = false›; obtain ⟨hp1, hr1, hr2, hd1, hd2, hi1, hk1, hdir1⟩ := HB1.out hbt; refine (size_any pub rela reln relc relS data datn datc datA datN datC idxa idxn idxc kdsa kdsn kdsc dir w (by omega) (by omega) HR.out.1 HR.out.2.1).mono ?_; rintro e wy ⟨m, rfl, rfl⟩; have HBD := Lib.hid (And.intro hr2 hd2); clear hr2 hd2)
    | (go_at_call 6; refine (premise_any pub rela reln relc relS data datn datc datA datN datC idxa idxn idxc idxZ kdsa kdsn kdsc kdsZ _ hp1 (by omega) (by omega) HR.out.1 HR.out.2.1 HR.out.2.2.2.1 HR.out.2.2.2.2 HBD.out.1 HBD.out.2 HIB.out.1 HIB.out.2).mono ?_; rintro e w1 ⟨b2, rfl, hb2, hbw⟩; have HPR := Lib.hid hb2; have HW1 := Lib.hid hbw; clear hb2 hbw)
    | (go_at_call 7; refine (clone_strs rela reln relc relS w1 hr1 (HR.out.1.below HW1.out)).mono ?_; rintro e w2 ⟨ra, rc, rfl, hrc, hrr, hbw⟩; have HW2 := Lib.hid (And.intro hrr (HW1.out.trans (hbw.mono HW1.out.size))); clear hrr hbw)
    | (go_at_call 8; refine (clone_rows data datn datc datA datN datC datD w2 hd1 (HR.out.2.1.below HW2.out.2) HBD.out.2 (fun i hi => (HR.out.2.2.1 i hi).below HW2.out.2)).mono ?_; rintro e w3 ⟨da, dc, dA, dC, rfl, hdr, hdb, hbw⟩; have HW3 := Lib.hid (And.intro hdr (And.intro hdb (And.intro (HW2.out.1.below hbw) (HW2.out.2.trans (hbw.mono HW2.out.2.size))))); clear hdr hdb hbw)
    | (go_at_call 9; refine (clone_u32 idxa idxn idxc idxZ w3 hi1 (HR.out.2.2.2.1.below HW3.out.2.2.2)).mono ?_; rintro e w4 ⟨ia, ic, rfl, hic, hir, hbw⟩; have HW4 := Lib.hid (And.intro hir (And.intro hbw (HW3.out.2.2.2.trans (hbw.mono HW3.out.2.2.2.size)))); clear hir hbw)
    | (go_at_call 10; refine (clone_u8 kdsa kdsn kdsc kdsZ w4 hk1 (HR.out.2.2.2.2.below HW4.out.2.2)).mono ?_; rintro e w5 ⟨ka, kc, rfl, hkc, hkr, hbw⟩; have HW5 := Lib.hid (And.intro hkr (And.intro hbw (HW4.out.2.2.trans (hbw.mono HW4.out.2.2.size)))); clear hkr hbw)
    | fail)
  all_goals first
    | (go_ret; first | exact ⟨rfl, Below.refl _ _⟩ | exact ⟨rfl, HW1.out⟩)
    | skip
  have hb2t := not_of' ‹(!b2) = false›
  subst hb2t
  have hP := HPR.out rfl
  have him := hP.im
  have hkm := hP.km
  have w5rel := HW3.out.2.2.1.below (HW4.out.2.1.trans (HW5.out.2.1.mono HW4.out.2.1.size))
  have w5dat := HW3.out.1.below (HW4.out.2.1.trans (HW5.out.2.1.mono HW4.out.2.1.size))
  have w5byt := fun i hi => ((HW3.out.2.1 i hi).2.2.1).below (HW4.out.2.1.trans (HW5.out.2.1.mono HW4.out.2.1.size))
  have w5idx := HW4.out.1.below HW5.out.2.1
  have H5 := Lib.hid (And.intro w5rel (And.intro w5dat (And.intro w5byt (And.intro w5idx (And.intro HW5.out.1 HW5.out.2.2)))))
  have HP := Lib.hid hP
  have HIM := Lib.hid (And.intro him hkm)
  clear w5rel w5dat w5byt w5idx hP him hkm
  obtain ⟨u0, hiu, hu0, hu1, hu2⟩ := info_parts u8_info
  have hn4 : datn ≤ 4096 := by omega
  have hr4 : reln ≤ 4096 := by omega
  go_loopw [13, 14, 15] (fun v c i wr => ∃ k : Nat, k ≤ datn ∧ i = .int .i64 k ∧ c = .int .i64 (chunksOf ((psOf datn dA datN dC datD idxZ kdsZ).take k)) ∧ wr.ownsRow w5.heap.size 5 1 v (outOf pub relS ((psOf datn dA datN dC datD idxZ kdsZ).take k)).length ((outOf pub relS ((psOf datn dA datN dC datD idxZ kdsZ).take k)).map bv) ∧ Below w5.heap.size w5 wr) (fun _ _ i _ => datn - (intOf i).toNat)
  case atStart => exact ⟨0, Nat.zero_le _, rfl, rfl, by simpa [outOf] using World.ownsRow_nil w5 _ 5 1, Below.refl _ _⟩
  case round =>
    obtain ⟨k, hk, rfl, rfl, hown, hb⟩ := hrel
    by_cases hlt : k < datn
    · obtain ⟨b1, o1, rfl, l1, h1⟩ := H5.out.2.1.blk (by omega)
      have c1 := (hb.cell (p := ⟨b1, o1 + k, none⟩) l1).trans (h1 k hlt)
      clear h1
      obtain ⟨b3, o3, rfl, l3, h3⟩ := H5.out.2.2.2.2.1.blk (by have := HIM.out.2; omega)
      have c3 := h3 k (by have := HIM.out.2; omega)
      clear h3
      simp only [slcAt, intAt] at c1 c3
      have htk := psOf_take datn dA datN dC datD idxZ kdsZ k hlt
      have hby := (H5.out.2.2.1 k hlt).below hb
      have hnl := (HW3.out.2.1 k hlt).2.2.2
      have hnk := HBD.out.2 k hlt
      have hol := out_le datn dA datN dC datD idxZ kdsZ pub relS (fun i hi => (HIB.out.2 i (by have := HIM.out.2; omega)).1) (k + 1) (by omega)
      have HTK := Lib.hid htk
      have HBY := Lib.hid (And.intro hby (And.intro hnl hnk))
      have HB2 := Lib.hid hb
      have HOW := Lib.hid hown
      have hunf : unf pub.size relS datN idxZ kdsZ (k + 1) ≤ 1048576 := by
        have h := unf_mono pub.size relS datN idxZ kdsZ (k + 1) (datn - (k + 1))
        rw [show k + 1 + (datn - (k + 1)) = datn by omega] at h
        exact Nat.le_trans h HP.out.le
      rw [psOf_take datn dA datN dC datD idxZ kdsZ k hlt, outOf_snoc, List.length_append, List.length_append, bytes_len] at hol
      have HOL := Lib.hid (Nat.le_trans hol hunf)
      have hkb := HIB.out.2 k (by have := HIM.out.2; omega)
      have hib := HIB.out.1 k (by have := HIM.out.1; omega)
      have hok := HP.out.ok k hlt
      obtain ⟨b2, o2, rfl, l2, h2⟩ := H5.out.2.2.2.1.blk (by have := HIM.out.1; omega)
      have c2 := h2 k (by have := HIM.out.1; omega)
      clear h2
      simp only [intAt] at c2
      have him := HIM.out.1
      have hkm := HIM.out.2
      clear hb hown htk hby hnl hnk hol hunf
      generalize hO : outOf pub relS ((psOf datn dA datN dC datD idxZ kdsZ).take k) = ok at *
      generalize hQ : chunksOf ((psOf datn dA datN dC datD idxZ kdsZ).take k) = ck at *
      have HOQ := Lib.hid (And.intro hO hQ)
      have hck : ck ≤ 4096 := by
        rw [← hQ]
        refine Nat.le_trans (List.length_filter_le _ _) ?_
        rw [List.length_take]
        omega
      clear hO hQ
      have hki : k < idxn := by omega
      have hkk : k < kdsn := by omega
      clear him hkm
      generalize dA k = xa at *
      generalize datN k = xn at *
      generalize dC k = xc at *
      generalize datD k = xd at *
      have hxn := HBY.out.2.2
      have hokl : ok.length + xn ≤ 1048576 := by have := HOL.out; dsimp only at this; omega
      by_cases hk2 : kdsZ k = 2
      · obtain ⟨q, hq⟩ : ∃ q : Nat, idxZ k = q := ⟨(idxZ k).toNat, by omega⟩
        have hqr : q < reln := by have := hok.2 hk2; omega
        obtain ⟨b4, o4, rfl, l4, h4⟩ := H5.out.1.blk (by omega)
        have c4 := h4 q hqr
        clear h4
        simp only [strAt] at c4
        have hrs : (relS q).size ≤ 1048576 := HBD.out.1 q hqr
        have htx : PD.text pub relS ⟨xa, xn, xc, xd, (idxZ k).toNat, (kdsZ k).toNat⟩ = (joinB pub (relS q)).data.toList := by simp [PD.text, hk2, hq, joinB_list]
        have HKQ := Lib.hid (And.intro (show (PD.kd ⟨xa, xn, xc, xd, (idxZ k).toNat, (kdsZ k).toNat⟩) = 2 by simp [hk2]) htx)
        have hol2 := HOL.out
        rw [htx, size_list] at hol2
        dsimp only at hol2
        rw [hq] at c2
        rw [hk2] at c3
        clear htx
        generalize relS q = rs at *
        generalize hJ : joinB pub rs = js at *
        have HM : Hid (∀ wx : World, Calls Tryz.prog 11 #[.string pub, .string rs] wx (fun e w' => e = .returned (.string js) ∧ w' = wx)) := fun wx => by rw [← hJ]; exact model_any pub rs wx (by omega) HP.out.pub0 hrs
        clear hJ hok hkb hib hk2 hq
        have D2 := Lib.hid c2
        have D3 := Lib.hid c3
        have D4 := Lib.hid c4
        replace c2 := (HB2.out.cell (p := ⟨b2, o2 + k, none⟩) l2).trans c2
        replace c3 := (HB2.out.cell (p := ⟨b3, o3 + k, none⟩) l3).trans c3
        replace c4 := (HB2.out.cell (p := ⟨b4, o4 + q, none⟩) l4).trans c4
        cases xa with
        | none =>
          have hx0 : xn = 0 := by
            rcases Nat.eq_zero_or_pos xn with h | h
            · exact h
            · obtain ⟨_, _, h2, _⟩ := HBY.out.1 h
              cases h2
          have hc0 := HBY.out.2.1 rfl
          subst hx0
          subst hc0
          have HOW1 := Lib.hid (And.intro (own_conv (n' := ok.length + 0) (xs' := ok.map bv ++ (List.range 0).map (byteAt xd)) HOW.out rfl (by simp)) HB2.out)
          go_wp2_with (first
            | (at_builtin; refine wpList_append_own_none rfl (.tmp 86) (.tmp 90) 25 rfl w5.heap.size 5 u0 1 Tryz.underlying25 hiu _ ok.length (ok.map bv) rfl HOW.out rfl ?_)
            | (go_at_call 11; refine (HM.out _).mono ?_; rintro e wz ⟨rfl, rfl⟩)
            | (at_builtin; refine Lib.wpList_append_own_string _ rfl (.tmp 97) (.tmp 106) 25 9 rfl w5.heap.size 5 u0 Tryz.underlying25 Tryz.underlying9 hiu hu0 hu1 hu2 _ _ _ rfl HOW1.out.1 js rfl (by unfold maxLen; omega) (by omega) HOW1.out.2.size ?_; intro v2 w2 hown2 hg2 hnn2; have HOW2 := Lib.hid (And.intro hown2 (HOW1.out.2.grown hg2 HOW1.out.2.size (fun k hk => (HOW1.out.1.lt k hk).1))); clear hown2 hg2 hnn2)
            | fail)
          refine ⟨?_, by simp [intOf]; omega⟩
          first
            | (repeat apply Exists.intro)
              refine And.intro ?_ (Eq.refl _)
              refine ⟨k + 1, by omega, by go_num, ?_, ?_, HOW2.out.2⟩
            | refine ⟨_, _, _, ⟨k + 1, by omega, by go_num, ?_, ?_, HOW2.out.2⟩, rfl, rfl, rfl⟩
            | refine ⟨k + 1, by omega, by go_num, ?_, ?_, HOW2.out.2⟩
          · rw [HTK.out, chunksOf_snoc, HOQ.out.2, if_pos HKQ.out.1]
            go_num
          · rw [HTK.out, outOf_snoc, HOQ.out.1, HKQ.out.2]
            exact own_conv HOW2.out.1 (want_len2 ok ⟨none, 0, 0, xd, (idxZ k).toNat, (kdsZ k).toNat⟩ js) (want_join ok ⟨none, 0, 0, xd, (idxZ k).toNat, (kdsZ k).toNat⟩ js _ rfl)
        | some xa =>
          go_wp2_with (first
            | (at_builtin; refine wpList_append_own _ rfl (.tmp 86) (.tmp 90) 25 rfl w5.heap.size 5 u0 _ 1 1 Tryz.underlying25 hiu hu0 hu1 hu2 rfl (by decide) _ ok.length (ok.map bv) rfl HOW.out xa xn xc ((List.range xn).map (byteAt xd)) rfl (by simp) (row_news HBY.out.1 (Below.refl _ _)) (by intro u hu; obtain ⟨i, _, rfl⟩ := List.mem_map.1 hu; rfl) (by unfold maxLen; omega) (by omega) HB2.out.size ?_; intro v' w' hown' hg' hnn; have hb' := HB2.out.grown hg' HB2.out.size (fun k hk => (HOW.out.lt k hk).1); have q3 := (hb'.cell (p := ⟨b3, o3 + k, none⟩) l3).trans D3.out; have q2 := (hb'.cell (p := ⟨b2, o2 + k, none⟩) l2).trans D2.out; have q4 := (hb'.cell (p := ⟨b4, o4 + q, none⟩) l4).trans D4.out; have HOW1 := Lib.hid (And.intro hown' hb'); clear hown' hg' hnn hb')
            | (go_at_call 11; refine (HM.out _).mono ?_; rintro e wz ⟨rfl, rfl⟩)
            | (at_builtin; refine Lib.wpList_append_own_string _ rfl (.tmp 97) (.tmp 106) 25 9 rfl w5.heap.size 5 u0 Tryz.underlying25 Tryz.underlying9 hiu hu0 hu1 hu2 _ _ _ rfl HOW1.out.1 js rfl (by unfold maxLen; omega) (by omega) HOW1.out.2.size ?_; intro v2 w2 hown2 hg2 hnn2; have HOW2 := Lib.hid (And.intro hown2 (HOW1.out.2.grown hg2 HOW1.out.2.size (fun k hk => (HOW1.out.1.lt k hk).1))); clear hown2 hg2 hnn2)
            | fail)
          refine ⟨?_, by simp [intOf]; omega⟩
          first
            | (repeat apply Exists.intro)
              refine And.intro ?_ (Eq.refl _)
              refine ⟨k + 1, by omega, by go_num, ?_, ?_, HOW2.out.2⟩
            | refine ⟨_, _, _, ⟨k + 1, by omega, by go_num, ?_, ?_, HOW2.out.2⟩, rfl, rfl, rfl⟩
            | refine ⟨k + 1, by omega, by go_num, ?_, ?_, HOW2.out.2⟩
          · rw [HTK.out, chunksOf_snoc, HOQ.out.2, if_pos HKQ.out.1]
            go_num
          · rw [HTK.out, outOf_snoc, HOQ.out.1, HKQ.out.2]
            exact own_conv HOW2.out.1 (want_len2 ok ⟨some xa, xn, xc, xd, (idxZ k).toNat, (kdsZ k).toNat⟩ js) (want_join ok ⟨some xa, xn, xc, xd, (idxZ k).toNat, (kdsZ k).toNat⟩ js _ rfl)
      · have e2 : (kdsZ k == 2) = false := by simp [hk2]
        have htx : PD.text pub relS ⟨xa, xn, xc, xd, (idxZ k).toNat, (kdsZ k).toNat⟩ = [] := by
          unfold PD.text
          rw [if_neg (by dsimp only; omega)]
        have HKQ := Lib.hid (And.intro (show ¬ (PD.kd ⟨xa, xn, xc, xd, (idxZ k).toNat, (kdsZ k).toNat⟩) = 2 by dsimp only; omega) htx)
        clear htx hok hib c2
        have D3 := Lib.hid c3
        replace c3 := (HB2.out.cell (p := ⟨b3, o3 + k, none⟩) l3).trans c3
        cases xa with
        | none =>
          have hx0 : xn = 0 := by
            rcases Nat.eq_zero_or_pos xn with h | h
            · exact h
            · obtain ⟨_, _, h2, _⟩ := HBY.out.1 h
              cases h2
          have hc0 := HBY.out.2.1 rfl
          subst hx0
          subst hc0
          have HOW1 := Lib.hid (And.intro (own_conv (n' := ok.length + 0) (xs' := ok.map bv ++ (List.range 0).map (byteAt xd)) HOW.out rfl (by simp)) HB2.out)
          go_wp2_with (first
            | (at_builtin; refine wpList_append_own_none rfl (.tmp 86) (.tmp 90) 25 rfl w5.heap.size 5 u0 1 Tryz.underlying25 hiu _ ok.length (ok.map bv) rfl HOW.out rfl ?_)
            | fail)
          refine ⟨?_, by simp [intOf]; omega⟩
          first
            | (repeat apply Exists.intro)
              refine And.intro ?_ (Eq.refl _)
              refine ⟨k + 1, by omega, by go_num, ?_, ?_, HOW1.out.2⟩
            | refine ⟨_, _, _, ⟨k + 1, by omega, by go_num, ?_, ?_, HOW1.out.2⟩, rfl, rfl, rfl⟩
            | refine ⟨k + 1, by omega, by go_num, ?_, ?_, HOW1.out.2⟩
          · rw [HTK.out, chunksOf_snoc, HOQ.out.2, if_neg HKQ.out.1]
            go_num
          · rw [HTK.out, outOf_snoc, HOQ.out.1, HKQ.out.2]
            exact own_conv HOW1.out.1 (want_len0 ok ⟨none, 0, 0, xd, (idxZ k).toNat, (kdsZ k).toNat⟩) (want_join0 ok ⟨none, 0, 0, xd, (idxZ k).toNat, (kdsZ k).toNat⟩ _ rfl)
        | some xa =>
          go_wp2_with (first
            | (at_builtin; refine wpList_append_own _ rfl (.tmp 86) (.tmp 90) 25 rfl w5.heap.size 5 u0 _ 1 1 Tryz.underlying25 hiu hu0 hu1 hu2 rfl (by decide) _ ok.length (ok.map bv) rfl HOW.out xa xn xc ((List.range xn).map (byteAt xd)) rfl (by simp) (row_news HBY.out.1 (Below.refl _ _)) (by intro u hu; obtain ⟨i, _, rfl⟩ := List.mem_map.1 hu; rfl) (by unfold maxLen; omega) (by omega) HB2.out.size ?_; intro v' w' hown' hg' hnn; have hb' := HB2.out.grown hg' HB2.out.size (fun k hk => (HOW.out.lt k hk).1); have q3 := (hb'.cell (p := ⟨b3, o3 + k, none⟩) l3).trans D3.out; have HOW1 := Lib.hid (And.intro hown' hb'); clear hown' hg' hnn hb')
            | fail)
          refine ⟨?_, by simp [intOf]; omega⟩
          first
            | (repeat apply Exists.intro)
              refine And.intro ?_ (Eq.refl _)
              refine ⟨k + 1, by omega, by go_num, ?_, ?_, HOW1.out.2⟩
            | refine ⟨_, _, _, ⟨k + 1, by omega, by go_num, ?_, ?_, HOW1.out.2⟩, rfl, rfl, rfl⟩
            | refine ⟨k + 1, by omega, by go_num, ?_, ?_, HOW1.out.2⟩
          · rw [HTK.out, chunksOf_snoc, HOQ.out.2, if_neg HKQ.out.1]
            go_num
          · rw [HTK.out, outOf_snoc, HOQ.out.1, HKQ.out.2]
            exact own_conv HOW1.out.1 (want_len0 ok ⟨some xa, xn, xc, xd, (idxZ k).toNat, (kdsZ k).toNat⟩) (want_join0 ok ⟨some xa, xn, xc, xd, (idxZ k).toNat, (kdsZ k).toNat⟩ _ rfl)
    · obtain rfl : k = datn := by omega
      rw [List.take_of_length_le (by rw [psOf_len]; exact Nat.le_refl _)] at hown
      obtain ⟨wa, wc, rfl, hwc, hwm, hwr⟩ := row_of_owns hown
      rw [List.take_of_length_le (by rw [psOf_len]; exact Nat.le_refl _)]
      have hol := out_le_all k dA datN dC datD idxZ kdsZ pub relS (fun i hi => (HIB.out.2 i (by have := HIM.out.2; omega)).1)
      have hle := HP.out.le
      have hrD : RowAt wr da k (dRow (psOf k dA datN dC datD idxZ kdsZ)) := rowAt_congr (H5.out.2.1.below hb) (fun i hi => psOf_d k dA datN dC datD idxZ kdsZ i hi)
      have hii : ∀ i, i < k → 0 ≤ idxZ i ∧ idxZ i < 4294967296 := fun i hi => HIB.out.1 i (by have := HIM.out.1; omega)
      have hkk : ∀ i, i < k → 0 ≤ kdsZ i ∧ kdsZ i < 256 := fun i hi => HIB.out.2 i (by have := HIM.out.2; omega)
      have hrI : RowAt wr ia k (iRow (psOf k dA datN dC datD idxZ kdsZ)) := rowAt_congr (by have h := H5.out.2.2.2.1.below hb; rw [HIM.out.1] at h; exact h) (fun i hi => psOf_i k dA datN dC datD idxZ kdsZ i hi (hii i hi).1)
      have hrK : RowAt wr ka k (kRow (psOf k dA datN dC datD idxZ kdsZ)) := rowAt_congr (by have h := H5.out.2.2.2.2.1.below hb; rw [HIM.out.2] at h; exact h) (fun i hi => psOf_k k dA datN dC datD idxZ kdsZ i hi (hkk i hi).1)
      have HPC := Lib.hid (fun (wx : World) pa (hrow : RowAt wx pa (k * 3) (fun i => (cellsP (psOf k dA datN dC datD idxZ kdsZ)).getD i undef)) (hbx : Below w5.heap.size w5 wx) => psOf_pieces k dA datN dC datD idxZ kdsZ (m := reln) hrow HBD.out.2 (fun i hi => ⟨(HW3.out.2.1 i hi).1, (HW3.out.2.1 i hi).2.1, (H5.out.2.2.1 i hi).below hbx⟩) hii hkk HP.out.ok)
      have HWB := Lib.hid (H5.out.2.2.2.2.2.trans (hb.mono H5.out.2.2.2.2.2.size))
      have HRR := Lib.hid (H5.out.1.below hb)
      have HPL := Lib.hid (psOf_len k dA datN dC datD idxZ kdsZ)
      have HRW := Lib.hid (And.intro hrD (And.intro hrI hrK))
      have HBR := Lib.hid hb
      have HWR := Lib.hid hwr
      have HOL := Lib.hid (Nat.le_trans hol hle)
      clear hrD hrI hrK hii hkk hb hwr hown hol hle
      generalize psOf k dA datN dC datD idxZ kdsZ = ps at *
      have hcl : chunksOf ps ≤ 4096 := Nat.le_trans (List.length_filter_le _ _) (by rw [HPL.out]; exact hn4)
      have him := HIM.out.1
      have hkm := HIM.out.2
      subst him
      subst hkm
      go_wp2_with (first
        | (go_at_call 12; refine (newCtx_any pub reln rc ra relS wr hr4 HRR.out).mono ?_; rintro e w6 ⟨cx, ox, cax, rfl, hctx, hch, hcs, hb6⟩; have H6 := Lib.hid (And.intro hctx (And.intro hch (And.intro hcs hb6))); clear hctx hch hcs hb6)
        | (go_at_call 13; refine (newOut_any _ dc ic kc da ia ka ps w6 hn4 HPL.out (HRW.out.1.below H6.out.2.2.2) (HRW.out.2.1.below H6.out.2.2.2) (HRW.out.2.2.below H6.out.2.2.2)).mono ?_; rintro e w7 ⟨pa, rfl, hpa, hrow, hb7⟩; have H7 := Lib.hid (And.intro hrow hb7); clear hrow hb7)
        | (go_at_call 14; have b7a := (Below.refl w7.heap.size w7).alloc (Nat.le_refl _) (.cells #[.slice pa kdsn kdsn, .slice none 0 0, .slice none 0 0, .int .u32 0, .int .u8 0] 43); have b7b := H7.out.2.trans (b7a.mono H7.out.2.size); have b67 := (H6.out.2.2.2.trans (b7b.mono H6.out.2.2.2.size)); have bw7 := HWB.out.trans (b67.mono HWB.out.size); refine (count_any F cx ox reln reln _ _ pub dir ps pa cax relS _ (by rw [bw7.tape]; exact HF.out.1) hp1 HP.out.pub0 HBD.out.1 (H6.out.1.below b7b) ((b7b.cell (block_lt_of_cell H6.out.2.1)).trans H6.out.2.1) (H6.out.2.2.1.below b7b) (by omega) (tabs_below HF.out.2.1 bw7) (Nat.le_trans HF.out.2.2 bw7.size) (HPC.out _ pa (H7.out.1.below b7a) (HBR.out.trans (b67.mono HBR.out.size))) hpa hn4 HOL.out).mono ?_; rintro e w8 ⟨a8, c8, rfl, hr8, hb8⟩; have H8 := Lib.hid (And.intro hr8 (And.intro (b67.trans (hb8.mono b67.size)) (bw7.trans (hb8.mono bw7.size)))); clear hr8 hb8 b67 bw7 b7a b7b)
        | (go_at_call 15; refine (bytesEq_any a8 wa (outOf pub relS ps).length c8 wc (fun i => (outOf pub relS ps).getD (0 + i) 0) w8 (by have := HOL.out; omega) H8.out.1 (rowAt_congr (by have h := HWR.out.below H8.out.2.1; rw [Nat.mul_one] at h; exact h) (fun i hi => want_at _ i hi))).mono ?_; rintro e w9 ⟨rfl, hb9⟩; have H9 := Lib.hid (H8.out.2.2.trans (hb9.mono H8.out.2.2.size)); clear hb9)
        | fail)
      all_goals first
        | (go_ret; exact ⟨rfl, H9.out⟩)
        | skip
end Go.Proofs.YtdoakedpkjlipaaGreatFmt
