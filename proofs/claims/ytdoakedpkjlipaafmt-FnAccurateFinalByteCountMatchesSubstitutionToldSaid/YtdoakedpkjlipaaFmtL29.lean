/- For every list of pieces, with a public path set and no asset pieces, accurateFinalByteCount answers the length of what substituteFinalPaths writes: FnAccurateFinalByteCountMatchesSubstitution returns true. The listed variables are tied to the program text, fmt is told. -/
import Derived.Test.YtdoakedpkjlipaaFmtK7
import Derived.Stop.Joined
import Derived.ProofKit
import Derived.OpenShut
import Derived.ShutString
import Derived.ChangeOld
import Derived.Lay
import Derived.SevenTiedAt
import Derived.Stop.JoinedTold
import Derived.Laws.Cover2
import Derived.Test.YtdoakedpkjlipaaFmtRows
import Derived.Test.YtdoakedpkjlipaaFmtCards
import Derived.Test.YtdoakedpkjlipaaFmtTie
namespace Go.Proofs.YtdoakedpkjlipaaFmt
open Go.ChangeShapes Go.WideShapes Go.ChangeAt Go.RowKit
open Go.ChangeMaps (open_string shut_string)
set_option linter.unusedVariables false
namespace fnAccurateFinalByteCountMatchesSubstitution
def ren : Go.Shelf.Ren := ⟨fun n => n, fun | 5 => 5 | 119 => 211 | 138 => 213 | 139 => 214 | n => n, fun | 3 => 0 | 4 => 1 | n => n⟩
theorem u8_types : U8Types Tryf.prog ren := ⟨Tryf.underlying5, Tryf.underlying211, Tryf.underlying213, Tryf.underlying214⟩
theorem u8_extra : U8Extra Tryf.prog ren := ⟨by kernel_rfl, by kernel_rfl, by kernel_rfl, by kernel_rfl, by kernel_rfl, by kernel_rfl, by kernel_rfl⟩
theorem tabs_laid {W : World} (h : laidMetH Tryf.prog Rows.fnAccurateFinalByteCountMatchesSubstitutionRow.laid W) : Lib.Utf8Tabs 0 1 W ∧ 2 ≤ W.heap.size := by
  rw [MakeChecks.laidMetH_plain _ _ _ (by kernel_rfl)] at h
  have hT : Lib.Utf8Tabs 0 1 W := utf8Tabs_of_readsT u8_types u8_extra
    ((show Rows.laid_unicode_utf8_first = Go.Lib.firstData by kernel_rfl) ▸ (Lib.laidMet.reads h (List.mem_of_getElem? (show Rows.fnAccurateFinalByteCountMatchesSubstitutionRow.laid[1]? = some ("unicode/utf8.first", Rows.laid_unicode_utf8_first) from rfl))))
    ((show Rows.laid_unicode_utf8_acceptRanges = Go.Lib.acceptData by kernel_rfl) ▸ (Lib.laidMet.reads h (List.mem_of_getElem? (show Rows.fnAccurateFinalByteCountMatchesSubstitutionRow.laid[0]? = some ("unicode/utf8.acceptRanges", Rows.laid_unicode_utf8_acceptRanges) from rfl))))
  exact ⟨hT, block_lt_of_cell (hT.2 0 (by decide)).1⟩
theorem own : ownKnob Tryf.prog.godebug = none := by kernel_rfl
theorem laidOut : laidOutB Tryf.prog = true := by kernel_rfl
theorem stops : Tryf.pinned.checked.prog.stops = ["fmt.Sprintf"] := by kernel_rfl
theorem stopKnobs : Tryf.pinned.checked.prog.stopKnobs = [] := by kernel_rfl
theorem quiet (os : Os) : Stop.quiet Tryf.pinned.checked.prog os := by
  intro k hk
  rw [stopKnobs] at hk
  cases hk
set_option maxRecDepth 100000 in
set_option maxHeartbeats 4000000 in
theorem lifted (os : Os) (started : os.Started) (H : Type) (enc : TypeId × Value → H) :
    ReturnsInTold none {} Tryf.checked os 3 .any Input.okWide ((OpenSpec.ofChange Rows.fnAccurateFinalByteCountMatchesSubstitutionSpec).preRow enc Tryf.prog Tryf.f3 Rows.fnAccurateFinalByteCountMatchesSubstitutionRow.domain false Rows.fnAccurateFinalByteCountMatchesSubstitutionRow.laid) (fun F => ((OpenSpec.ofChange Rows.fnAccurateFinalByteCountMatchesSubstitutionSpec).at F).post enc Tryf.prog Tryf.f3 false true false false) (aloneAtReturn Tryf.prog) nothingAlways := by
  refine returnsInTold_of_row (C := Tryf.checked) (s := OpenSpec.ofChange Rows.fnAccurateFinalByteCountMatchesSubstitutionSpec) (by kernel_rfl) own started (by kernel_rfl) Tryf.func3
    (fun F => ⟨World.laidAll Tryf.prog os Rows.fnAccurateFinalByteCountMatchesSubstitutionRow.laid, F.over fun _ _ => 0, ⟨#[], #[.string ByteArray.empty, .slice none 0 0, .slice none 0 0, .slice none 0 0, .slice none 0 0, .string ByteArray.empty], []⟩, World.laidAll_os _ _ _, World.shaped_of_ZipB (by kernel_rfl) (by kernel_rfl), rfl,
      (Input.okWide_of_okWideB (by kernel_rfl)).2,
      OpenSpec.preRow_of_B rfl 8 (by kernel_rfl) (by kernel_rfl) (by rw [MakeChecks.laidMetH_plain _ _ _ (by kernel_rfl)]; exact laidMet_laidAll _ (by kernel_rfl) (by kernel_rfl)),
      (by simp only [Assume.holds]; exact ⟨by simp, by simp, fun _ => F.over_modest Modest.zero, by simp, by simp⟩), F.over_answers _⟩) ?_
  intro F W base args ds gs before _ hF hval0 hW hcnd0 _ _ hL _
  have hval : ∀ (j : Nat) t v, Tryf.f3.params[j]? = some t → args[j]? = some v → Value.okWide Tryf.prog W .any base t v := hval0
  have hW' := hW
  obtain ⟨p, q, hA0, hV, rfl, hfz, hnd⟩ := hW
  have hA : DataW.TrodAll enc Tryf.prog W 0 (fun _ => true) true Tryf.f3.params.toList args.toList ds p := hA0
  rw [Tryf.params3] at hA hval
  obtain ⟨v0, vs0, d0, ds0, p0, q0, hargs, rfl, rfl, h0, r0⟩ := trodAll_cons hA
  obtain ⟨v1, vs1, d1, ds1, p1, q1, rfl, rfl, rfl, h1, r1⟩ := trodAll_cons r0
  obtain ⟨v2, vs2, d2, ds2, p2, q2, rfl, rfl, rfl, h2, r2⟩ := trodAll_cons r1
  obtain ⟨v3, vs3, d3, ds3, p3, q3, rfl, rfl, rfl, h3, r3⟩ := trodAll_cons r2
  obtain ⟨v4, vs4, d4, ds4, p4, q4, rfl, rfl, rfl, h4, r4⟩ := trodAll_cons r3
  obtain ⟨v5, vs5, d5, ds5, p5, q5, rfl, rfl, rfl, h5, r5⟩ := trodAll_cons r4
  obtain ⟨rfl, rfl, rfl⟩ := trodAll_nil r5
  obtain rfl : args = #[v0, v1, v2, v3, v4, v5] := by cases args; simp_all
  obtain ⟨rfl, rfl⟩ := trodVars_none hV
  obtain ⟨pub, rfl, rfl, rfl, wpub⟩ := open_string Tryf.underlying9 (hval 0 9 v0 rfl rfl) h0
  obtain ⟨rela, reln, relc, rfl⟩ := okWide_slice Tryf.underlying22 (hval 1 22 v1 rfl rfl)
  have k1 := h1
  have lt1 : ∀ x ∈ p1, x.block < W.heap.size := by obtain ⟨m, hm⟩ := k1; exact DataW.trod_lt m _ _ _ hm
  obtain ⟨wrel, relS, wrel2, wrel3⟩ := strs_of_open Tryf.underlying22 Tryf.underlying9 (by kernel_rfl) h1
  obtain ⟨data, datn, datc, rfl⟩ := okWide_slice Tryf.underlying23 (hval 2 23 v2 rfl rfl)
  have k2 := h2
  have lt2 : ∀ x ∈ p2, x.block < W.heap.size := by obtain ⟨m, hm⟩ := k2; exact DataW.trod_lt m _ _ _ hm
  obtain ⟨wdat, datA, datN, datC, datD, wdat2, wdat3⟩ := bytes2_of_open Tryf.underlying23 Tryf.underlying25 Tryf.underlying5 (by kernel_rfl) (by kernel_rfl) h2
  obtain ⟨idxa, idxn, idxc, rfl⟩ := okWide_slice Tryf.underlying24 (hval 3 24 v3 rfl rfl)
  have k3 := h3
  have lt3 : ∀ x ∈ p3, x.block < W.heap.size := by obtain ⟨m, hm⟩ := k3; exact DataW.trod_lt m _ _ _ hm
  obtain ⟨widx, idxZ, widx2, widx3⟩ := ints_of_open Tryf.underlying24 Tryf.underlying38 (by kernel_rfl) h3
  obtain ⟨kdsa, kdsn, kdsc, rfl⟩ := okWide_slice Tryf.underlying25 (hval 4 25 v4 rfl rfl)
  have k4 := h4
  have lt4 : ∀ x ∈ p4, x.block < W.heap.size := by obtain ⟨m, hm⟩ := k4; exact DataW.trod_lt m _ _ _ hm
  obtain ⟨wkds, kdsZ, wkds2, wkds3⟩ := ints_of_open Tryf.underlying25 Tryf.underlying5 (by kernel_rfl) h4
  obtain ⟨dir, rfl, rfl, rfl, wdir⟩ := open_string Tryf.underlying9 (hval 5 9 v5 rfl rfl) h5
  obtain ⟨hTabs, hw2⟩ := tabs_laid hL
  clear hA0 hval0
  refine (law29_wf F pub rela reln relc relS data datn datc datA datN datC datD idxa idxn idxc idxZ kdsa kdsn kdsc kdsZ dir W hF hTabs hw2 wpub wrel wrel2 wdat wdat2 wdat3 widx widx2 (fun i hi => wf_u32 (widx3 i hi)) wkds wkds2 (fun i hi => wf_u8 (wkds3 i hi)) wdir).mono fun e W' ⟨he, bel⟩ => ?_
  subst he
  exact ⟨_, rfl, _, _, _, [], _, [], hW', trodAll_mk1 (shut_bool Tryf.underlying4 _), (trodAll_cons_mk (shut_string Tryf.underlying9 wpub) (trodAll_cons_mk (Below.trod laidOut (by kernel_rfl) (of_decide_eq_true (by kernel_rfl)) k1 bel lt1) (trodAll_cons_mk (Below.trod laidOut (by kernel_rfl) (of_decide_eq_true (by kernel_rfl)) k2 bel lt2) (trodAll_cons_mk (Below.trod laidOut (by kernel_rfl) (of_decide_eq_true (by kernel_rfl)) k3 bel lt3) (trodAll_cons_mk (Below.trod laidOut (by kernel_rfl) (of_decide_eq_true (by kernel_rfl)) k4 bel lt4) (trodAll_cons_mk (shut_string Tryf.underlying9 wdir) (trodAll_mk0))))))), rfl, bel.frame _, fun h => by cases h⟩
/-- The statement. -/
theorem proved : Rows.FnAccurateFinalByteCountMatchesSubstitutionToldSaid :=
  Claim7.holds_of_told_tied_any_at .later 3 Tryf.f3 "fmt.Sprintf" [] [] _ _ _ _ _ (by kernel_rfl) rfl rfl rfl laidOut (by kernel_rfl) rfl ⟨rfl, rfl, rfl, rfl, rfl, rfl, rfl⟩ rfl rfl (by kernel_rfl) (by kernel_rfl) Tryf.func3 (by kernel_rfl)
    (of_decide_eq_true (by kernel_rfl)) (by unfold Func.isWrapper; rw [if_neg (of_decide_eq_false (by kernel_rfl))]; exact ⟨rfl, rfl⟩) stops.symm rfl stopKnobs.symm (by kernel_rfl)
    (by kernel_rfl) (by kernel_rfl) (by kernel_rfl) (by kernel_rfl) (by kernel_rfl) (by kernel_rfl) (by kernel_rfl) (by kernel_rfl) (by kernel_rfl) rfl (by kernel_rfl) rfl rfl
    rfl rfl
    rfl (by kernel_rfl) (by kernel_rfl) (by kernel_rfl) (by decide) (by kernel_rfl) fnAccurateFinalByteCountMatchesSubstitution_row_tie
    (OpenClaim.moreEntering_of (by kernel_rfl) (by kernel_rfl) (by kernel_rfl) (by kernel_rfl) (by kernel_rfl) (by kernel_rfl) (by kernel_rfl) (by kernel_rfl) (by kernel_rfl) (by kernel_rfl))
    ⟨_, WideRow.started_initial, quiet _⟩
    (fun os started _ H enc _ => lifted os started H enc)
#print axioms proved
end fnAccurateFinalByteCountMatchesSubstitution
end Go.Proofs.YtdoakedpkjlipaaFmt
